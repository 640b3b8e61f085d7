/- The row of 'FnNewCellSameAroundEveryPoint'. -/
import Derived.Test.Qxb6614855aDoorRows
import Derived.WalkKit
import Derived.ProofKit
import Derived.OpenShut
import Derived.ChangeOld
import Derived.Below
import Derived.LaidMore
import Derived.Lib.LaidTab
import Derived.Stop.Joined
import Derived.Laws.IdiomArrays
import Derived.Test.Qxb6614855aDoorF4b
namespace Go.Proofs.Qxb6614855aDoor.fnNewCellSameAroundEveryPoint
open Go.ChangeShapes Go.WideShapes Go.ChangeAt Go.RowKit
set_option linter.unusedVariables false

theorem own : ownKnob Tryd.prog.godebug = none := by kernel_rfl
theorem laidOut : laidOutB Tryd.prog = true := by kernel_rfl
theorem gTab : Tryd.prog.globalNamed "math/bits.deBruijn32tab" = some 0 := by kernel_rfl
theorem tTab : (Tryd.prog.globals[0]?).map (·.type) = some 74 := by kernel_rfl
theorem cells5 : Tryd.prog.cellsOf 5 = 1 := by kernel_rfl
theorem cells22 : Tryd.prog.cellsOf 22 = 1 := by kernel_rfl
theorem cells23 : Tryd.prog.cellsOf 23 = 4 := by kernel_rfl
theorem cellsTab : Tryd.prog.cellsOf 74 = 32 := by kernel_rfl

/-- What the row lists. -/
abbrev laidL : List (String × DataW Unit) := [("math/bits.deBruijn32tab", Rows.laid_math_bits_deBruijn32tab)]
def tabZ : List Int := Lib.deBruijn32tab.map fun x : Nat => (x : Int)
theorem laid_tab : (Rows.laid_math_bits_deBruijn32tab : DataW Unit) = Lib.tabData .u8 tabZ := rfl

theorem of_laid {W : World} (h : laidMetH Tryd.prog laidL W) : TabAt 0 Lib.deBruijn32tab W ∧ 0 < W.heap.size := by
  rw [MakeChecks.laidMetH_plain _ _ _ (by kernel_rfl)] at h
  unfold laidL at h
  rw [laid_tab] at h
  have ht := Lib.tabIs_of_head gTab tTab Tryd.underlying74 Tryd.underlying5 cells5 cellsTab h
  have hc : TabAt 0 Lib.deBruijn32tab W := by
    intro j hj
    have := ht.cell gTab j (by simpa [tabZ] using hj)
    rw [this]
    congr 2
    simp [tabZ, hj]
  exact ⟨hc, lt_of_cell (hc 0 (by decide))⟩

theorem door_met (os : Os) (args : Array Value) : laidMetH Tryd.prog laidL ((World.doorLaid Tryd.prog 400 os).forCall (fun _ _ => 0) ⟨#[], args, []⟩).memory :=
  laidMetH_of_parts3 (fuel := 8) (laidMet_of_run' 8 (by kernel_rfl) (by kernel_rfl)) (by kernel_rfl) (by kernel_rfl)

theorem list4 {α : Type} (l : List α) (h : (⟨l⟩ : Array α).size = 4) : ∃ a b c d, l = [a, b, c, d] := by
  match l, h with
  | [a, b, c, d], _ => exact ⟨a, b, c, d, rfl⟩

set_option maxRecDepth 100000 in
/-- A point that came in. -/
theorem is_own {W : World} {base : Nat} {H : Type} {enc : TypeId × Value → H} {v : Value} {d : DataW H} {p : List MemPlace} (hv : Value.okWide Tryd.prog W .any base 23 v) (h : DataW.Trod enc Tryd.prog W 0 (fun _ => true) true 23 v d p) : ∃ x, v = .agg (ownA x) := by
  obtain ⟨cs, rfl, hsz, _⟩ : ∃ cs, v = .agg cs ∧ cs.size = Tryd.prog.cellsOf 23 ∧ Row.okWide Tryd.prog W .any base 23 cs := by
    simpa [Value.okWide, Tryd.underlying23] using hv
  rw [cells23] at hsz
  obtain ⟨l⟩ := cs
  obtain ⟨c0, c1, c2, c3, rfl⟩ := list4 l hsz
  obtain ⟨fuel, hf⟩ := h
  obtain ⟨y0, y1, y2, y3, m, hx, hy0, hy1, hy2, hy3⟩ := trod_array4 Tryd.underlying23 cells22 hf
  obtain ⟨x0, e0, rfl, w0⟩ := DataW.trod_int Tryd.underlying22 hy0
  obtain ⟨x1, e1, rfl, w1⟩ := DataW.trod_int Tryd.underlying22 hy1
  obtain ⟨x2, e2, rfl, w2⟩ := DataW.trod_int Tryd.underlying22 hy2
  obtain ⟨x3, e3, rfl, w3⟩ := DataW.trod_int Tryd.underlying22 hy3
  simp at e0 e1 e2 e3
  subst e0 e1 e2 e3
  exact ⟨fun j => if j = 0 then x0 else if j = 1 then x1 else if j = 2 then x2 else x3, rfl⟩

set_option maxRecDepth 100000 in
theorem lifted (os : Os) (started : os.Started) (H : Type) (enc : TypeId × Value → H) :
    ReturnsInHanded {} Tryd.checked os 4 .any (fun w args => (Rows.fnNewCellSameAroundEveryPointSpec.pre enc Tryd.prog Tryd.f4 [] false w args ∧ laidMetH Tryd.prog laidL w) ∧ sizedMet enc Tryd.prog Tryd.f4 (OpenSpec.ofChange Rows.fnNewCellSameAroundEveryPointSpec) false w args)
      (Rows.fnNewCellSameAroundEveryPointSpec.post enc Tryd.prog Tryd.f4 false true false false) := by
  refine returnsInHanded_of_change_and (C := Tryd.checked) (X := fun w _ => laidMetH Tryd.prog laidL w) (fun _ _ _ hh h => h.of_heap hh) own started (by kernel_rfl) Tryd.func4
    (ChangeSpec.witness_shaped (enc := enc) (C := Tryd.checked) (os := os) (X := fun w _ => laidMetH Tryd.prog laidL w) false (World.doorLaid Tryd.prog 400 os) #[.agg #[.int .u32 0, .int .u32 0, .int .u32 0, .int .u32 0], .agg #[.int .u32 0, .int .u32 0, .int .u32 0, .int .u32 0]] 8 rfl (World.shaped_of_RefB (by kernel_rfl) (by kernel_rfl)) (by kernel_rfl) (by kernel_rfl) (by kernel_rfl) (door_met os _)) ?_
  intro W base args ds gs before hval0 hW _ _ hL _
  have hval : ∀ (j : Nat) t v, Tryd.f4.params[j]? = some t → args[j]? = some v → Value.okWide Tryd.prog W .any base t v := hval0
  have hW' := hW
  obtain ⟨p, q, hA0, hV, rfl, hfz, hnd⟩ := hW
  have hA : DataW.TrodAll enc Tryd.prog W 0 (fun _ => true) true Tryd.f4.params.toList args.toList ds p := hA0
  rw [Tryd.params4] at hA hval
  obtain ⟨v0, v1, d0, d1, p0, p1, rfl, rfl, rfl, h0, h1⟩ := trodAll_two hA
  obtain ⟨rfl, rfl⟩ := trodVars_none hV
  have k0 := h0
  have k1 := h1
  have lt0 : ∀ x ∈ p0, x.block < W.heap.size := by obtain ⟨m, hm⟩ := k0; exact DataW.trod_lt m _ _ _ hm
  have lt1 : ∀ x ∈ p1, x.block < W.heap.size := by obtain ⟨m, hm⟩ := k1; exact DataW.trod_lt m _ _ _ hm
  obtain ⟨x, rfl⟩ := is_own (hval 0 23 v0 rfl rfl) h0
  obtain ⟨y, rfl⟩ := is_own (hval 1 23 v1 rfl rfl) h1
  clear hA0 hval0
  obtain ⟨hTab, hpos⟩ := of_laid hL
  refine (law4 x y W hTab hpos).mono fun e W' ⟨he, bel⟩ => ?_
  subst he
  exact ⟨_, rfl, _, _, _, [], _, [], hW', trodAll_mk1 (shut_bool Tryd.underlying4 _), trodAll_mk2 (Below.trod laidOut (by kernel_rfl) (of_decide_eq_true (by kernel_rfl)) k0 bel lt0) (Below.trod laidOut (by kernel_rfl) (of_decide_eq_true (by kernel_rfl)) k1 bel lt1), rfl, bel.frame _, fun h => by cases h⟩

theorem over : Rows.fnNewCellSameAroundEveryPointRow.holds Tryd.pinned (OpenSpec.ofChange Rows.fnNewCellSameAroundEveryPointSpec) :=
  OpenClaim.holds_of_wide 4 Tryd.f4 rfl rfl rfl rfl rfl rfl rfl ⟨rfl, rfl, rfl, rfl, rfl⟩ rfl rfl rfl rfl rfl (by kernel_rfl) Tryd.func4 (by kernel_rfl)
    (of_decide_eq_true (by kernel_rfl)) (by unfold Func.isWrapper; first | (rw [if_pos (by decide +kernel)]; kernel_rfl) | (rw [if_neg (by decide +kernel)]; exact ⟨rfl, rfl⟩))
    (fun os started H enc _ => lifted os started H enc)

theorem row : Rows.FnNewCellSameAroundEveryPointSaid := over
end Go.Proofs.Qxb6614855aDoor.fnNewCellSameAroundEveryPoint
