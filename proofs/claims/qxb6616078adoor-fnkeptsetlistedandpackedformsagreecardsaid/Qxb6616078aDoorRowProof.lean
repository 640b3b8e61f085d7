/- The row of 'FnKeptSetListedAndPackedFormsAgree'. -/
import Derived.Test.Qxb6616078aDoorRows
import Derived.WalkKit
import Derived.ProofKit
import Derived.OpenShut
import Derived.ChangeOld
import Derived.Below
import Derived.LaidMore
import Derived.Lib.LaidTab
import Derived.Stop.Joined
import Derived.Test.Qxb6616078aDoorMain
namespace Go.Proofs.Qxb6616078aDoor.fnKeptSetListedAndPackedFormsAgree
open Go.ChangeShapes Go.WideShapes Go.ChangeAt Go.RowKit
open Plain
set_option linter.unusedVariables false

theorem own : ownKnob Tryd.prog.godebug = none := by kernel_rfl
theorem laidOut : laidOutB Tryd.prog = true := by kernel_rfl
theorem gTab : Tryd.prog.globalNamed "math/bits.deBruijn64tab" = some 0 := by kernel_rfl
theorem tTab : (Tryd.prog.globals[0]?).map (·.type) = some 38 := by kernel_rfl
theorem cells5 : Tryd.prog.cellsOf 5 = 1 := by kernel_rfl
theorem cells38 : Tryd.prog.cellsOf 38 = 64 := by kernel_rfl

/-- What the row lists. -/
abbrev laidL : List (String × DataW Unit) := [("math/bits.deBruijn64tab", Rows.laid_math_bits_deBruijn64tab)]
def tabZ : List Int := Lib.deBruijn64tab.map fun x : Nat => (x : Int)
theorem laid_tab : (Rows.laid_math_bits_deBruijn64tab : DataW Unit) = Lib.tabData .u8 tabZ := rfl

theorem of_laid {W : World} (h : laidMetH Tryd.prog laidL W) : TabAt 0 Lib.deBruijn64tab W ∧ 0 < W.heap.size := by
  rw [MakeChecks.laidMetH_plain _ _ _ (by kernel_rfl)] at h
  unfold laidL at h
  rw [laid_tab] at h
  have ht := Lib.tabIs_of_head gTab tTab Tryd.underlying38 Tryd.underlying5 cells5 cells38 h
  have hc : TabAt 0 Lib.deBruijn64tab W := by
    intro j hj
    have := ht.cell gTab j (by simpa [tabZ] using hj)
    rw [this]
    congr 2
    simp [tabZ, hj]
  exact ⟨hc, lt_of_cell (hc 0 (by decide))⟩

theorem door_met (os : Os) (args : Array Value) : laidMetH Tryd.prog laidL ((World.doorLaid Tryd.prog 400 os).forCall (fun _ _ => 0) ⟨#[], args, []⟩).memory :=
  laidMetH_of_parts3 (fuel := 8) (laidMet_of_run' 8 (by kernel_rfl) (by kernel_rfl)) (by kernel_rfl) (by kernel_rfl)

/-- WHAT THE WALK IS TOLD OF A SLICE OF INTEGERS THAT CAME IN. -/
def IsRow (k : IntKind) (w : World) (a : Option Addr) (len cap : Nat) (zs : List Int) : Prop :=
  (a = none ∧ len = 0 ∧ cap = 0 ∧ zs = []) ∨
  ∃ x, a = some x ∧ len ≤ cap ∧ cap ≤ maxLen ∧ zs.length = cap ∧ (∀ i, i < zs.length → w.cell? (x.add i) = some (.int k (zs.getD i 0))) ∧ ∀ n ∈ zs, (Lit.int k n).wf = true

theorem arg_ints {w : World} {a : Option Addr} {len cap : Nat} {zs : List Int} (h : IsRow .i64 w a len cap zs) : Arg w a len (ints (zs.take len)) := by
  rcases h with ⟨rfl, rfl, rfl, rfl⟩ | ⟨x, rfl, hl, _, hz, hc, _⟩
  · exact arg_nil w
  · refine ⟨by simp [ints]; omega, fun h => (by cases h), fun v hv => ?_, fun ad e j v hv => ?_⟩
    · obtain ⟨i, _, rfl⟩ := List.mem_map.1 hv
      rfl
    · obtain rfl := Option.some.inj e
      unfold ints at hv
      rw [List.getElem?_map] at hv
      by_cases hj : j < len
      · rw [List.getElem?_take, if_pos hj, List.getElem?_eq_getElem (by omega)] at hv
        obtain rfl := Option.some.inj hv
        have := hc j (by omega)
        rw [this]
        simp [show j < zs.length from by omega]
      · rw [List.getElem?_eq_none (by simp; omega)] at hv
        cases hv

set_option maxRecDepth 100000 in
theorem lifted (os : Os) (started : os.Started) (H : Type) (enc : TypeId × Value → H) :
    ReturnsInHanded {} Tryd.checked os 3 .any (fun w args => (Rows.fnKeptSetListedAndPackedFormsAgreeSpec.pre enc Tryd.prog Tryd.f3 [] false w args ∧ laidMetH Tryd.prog laidL w) ∧ sizedMet enc Tryd.prog Tryd.f3 (OpenSpec.ofChange Rows.fnKeptSetListedAndPackedFormsAgreeSpec) false w args)
      (Rows.fnKeptSetListedAndPackedFormsAgreeSpec.post enc Tryd.prog Tryd.f3 false true false false) := by
  refine returnsInHanded_of_change_and (C := Tryd.checked) (X := fun w _ => laidMetH Tryd.prog laidL w) (fun _ _ _ hh h => h.of_heap hh) own started (by kernel_rfl) Tryd.func3
    (ChangeSpec.witness_shaped (enc := enc) (C := Tryd.checked) (os := os) (X := fun w _ => laidMetH Tryd.prog laidL w) false (World.doorLaid Tryd.prog 400 os) #[.slice none 0 0] 8 rfl (World.shaped_of_RefB (by kernel_rfl) (by kernel_rfl)) (by kernel_rfl) (by kernel_rfl) (by kernel_rfl) (door_met os _)) ?_
  intro W base args ds gs before hval0 hW _ _ hL _
  have hval : ∀ (j : Nat) t v, Tryd.f3.params[j]? = some t → args[j]? = some v → Value.okWide Tryd.prog W .any base t v := hval0
  have hW' := hW
  obtain ⟨p, q, hA0, hV, rfl, hfz, hnd⟩ := hW
  have hA : DataW.TrodAll enc Tryd.prog W 0 (fun _ => true) true Tryd.f3.params.toList args.toList ds p := hA0
  rw [Tryd.params3] at hA hval
  obtain ⟨v0, d0, rfl, rfl, h0⟩ := trodAll_one hA
  obtain ⟨rfl, rfl⟩ := trodVars_none hV
  obtain ⟨a0, len0, cap0, rfl⟩ := okWide_slice Tryd.underlying22 (hval 0 22 v0 rfl rfl)
  have k0 := h0
  have lt0 : ∀ x ∈ p, x.block < W.heap.size := by obtain ⟨m, hm⟩ := k0; exact DataW.trod_lt m _ _ _ hm
  obtain ⟨z0, w0⟩ : ∃ zs, IsRow .i64 W a0 len0 cap0 zs := by
    obtain ⟨fuel, hf⟩ := h0
    rcases open_ints Tryd.underlying22 Tryd.underlying3 (by kernel_rfl) hf with ⟨hcs, _⟩ | ⟨x, l, c, zs, hcs, _, hl, hm, hz, _, hcell, hwz⟩
    · simp [Value.cells] at hcs
      obtain ⟨rfl, rfl, rfl⟩ := hcs
      exact ⟨[], .inl ⟨rfl, rfl, rfl, rfl⟩⟩
    · simp [Value.cells] at hcs
      obtain ⟨rfl, rfl, rfl⟩ := hcs
      exact ⟨zs, .inr ⟨_, rfl, hl, hm, by simpa using hz, hcell, hwz⟩⟩
  clear hA0 hval0
  obtain ⟨hTab, hpos⟩ := of_laid hL
  refine (main a0 len0 cap0 (z0.take len0) W (arg_ints w0) hTab hpos).mono fun e W' ⟨he, bel⟩ => ?_
  subst he
  exact ⟨_, rfl, _, _, _, [], _, [], hW', trodAll_mk1 (shut_bool Tryd.underlying4 _), trodAll_mk1 (Below.trod laidOut (by kernel_rfl) (of_decide_eq_true (by kernel_rfl)) k0 bel lt0), rfl, bel.frame _, fun h => by cases h⟩

theorem over : Rows.fnKeptSetListedAndPackedFormsAgreeRow.holds Tryd.pinned (OpenSpec.ofChange Rows.fnKeptSetListedAndPackedFormsAgreeSpec) :=
  OpenClaim.holds_of_wide 3 Tryd.f3 rfl rfl rfl rfl rfl rfl rfl ⟨rfl, rfl, rfl, rfl, rfl⟩ rfl rfl rfl rfl rfl (by kernel_rfl) Tryd.func3 (by kernel_rfl)
    (of_decide_eq_true (by kernel_rfl)) (by unfold Func.isWrapper; first | (rw [if_pos (by decide +kernel)]; kernel_rfl) | (rw [if_neg (by decide +kernel)]; exact ⟨rfl, rfl⟩))
    (fun os started H enc _ => lifted os started H enc)

theorem row : Rows.FnKeptSetListedAndPackedFormsAgreeSaid := over
end Go.Proofs.Qxb6616078aDoor.fnKeptSetListedAndPackedFormsAgree
