/- The proof of 'Rows.FnMiddleSnakeSplitsAShortestEditPathAtItsMiddleSaid'. The frame is the skeleton tool's, turned to slices of bools besides; the walk is ours. -/
import Derived.Test.Qxb6617690aRows
import Derived.WalkKit
import Derived.ProofKit
import Derived.OpenShut
import Derived.ShutString
import Derived.ChangeOld
import Derived.Below
import Derived.Deep.Grids
import Derived.Test.Qxb6617690aM3
namespace Go.Proofs.Qxb6617690a.fnMiddleSnakeSplitsAShortestEditPathAtItsMiddle
open Go.ChangeShapes Go.WideShapes Go.ChangeAt Go.RowKit
open Plain
set_option linter.unusedVariables false

theorem own : ownKnob Try.prog.godebug = none := by kernel_rfl
theorem laidOut : laidOutB Try.prog = true := by kernel_rfl

/-- WHAT THE WALK IS TOLD OF A SLICE OF INTEGERS THAT CAME IN: it is nil; or it leads to a row of 'cap' cells, the numbers 'zs' (the first 'len' are its elements, the rest its spare room), each fitting its kind. -/
def IsRow (k : IntKind) (w : World) (a : Option Addr) (len cap : Nat) (zs : List Int) : Prop :=
  (a = none ∧ len = 0 ∧ cap = 0 ∧ zs = []) ∨
  ∃ x, a = some x ∧ len ≤ cap ∧ cap ≤ maxLen ∧ zs.length = cap ∧ (∀ i, i < zs.length → w.cell? (x.add i) = some (.int k (zs.getD i 0))) ∧ ∀ n ∈ zs, (Lit.int k n).wf = true

theorem arg_nil (w : World) : Arg w none 0 [] := ⟨rfl, fun _ => rfl, fun _ h => (by simp at h), fun _ h => (by cases h)⟩

theorem arg_bools {w : World} {x : Addr} {len cap : Nat} {Bf : Nat → Bool} (hl : len ≤ cap) (hc : ∀ i, i < cap → w.cell? (x.add i) = some (.bool (Bf i))) : Arg w (some x) len ((List.range len).map fun i => .bool (Bf i)) := by
  refine ⟨by simp, fun h => (by cases h), fun v hv => ?_, fun ad e j v hv => ?_⟩
  · obtain ⟨i, _, rfl⟩ := List.mem_map.1 hv
    rfl
  · obtain rfl := Option.some.inj e
    rw [List.getElem?_map] at hv
    by_cases hj : j < len
    · rw [List.getElem?_range hj] at hv
      obtain rfl := Option.some.inj hv
      exact hc j (by omega)
    · rw [List.getElem?_eq_none (by simp; omega)] at hv
      cases hv

theorem arg_ints {w : World} {a : Option Addr} {len cap : Nat} {zs : List Int} (h : IsRow .i64 w a len cap zs) : Arg w a len ((zs.take len).map (.int .i64)) := by
  rcases h with ⟨rfl, rfl, rfl, rfl⟩ | ⟨x, rfl, hl, _, hz, hc, _⟩
  · exact arg_nil w
  · refine ⟨by simp; omega, fun h => (by cases h), fun v hv => ?_, fun ad e j v hv => ?_⟩
    · obtain ⟨i, _, rfl⟩ := List.mem_map.1 hv
      rfl
    · obtain rfl := Option.some.inj e
      rw [List.getElem?_map] at hv
      by_cases hj : j < len
      · rw [List.getElem?_take, if_pos hj, List.getElem?_eq_getElem (by omega)] at hv
        obtain rfl := Option.some.inj hv
        have := hc j (by omega)
        rw [this]
        simp [show j < zs.length from by omega]
      · rw [List.getElem?_eq_none (by simp; omega)] at hv
        cases hv

theorem not_early {n0 n1 n2 n3 n4 n5 : Nat} {i0 i1 i2 i3 : Int} (h : ¬ Early n0 n1 n2 n3 n4 n5 i0 i1 i2 i3) :
    (n0 ≤ 4096 ∧ n1 ≤ 4096 ∧ n2 ≤ 65536) ∧ (n3 ≤ 65536 ∧ n4 ≤ 32768 ∧ n5 ≤ 32768) ∧ 0 ≤ i0 ∧ i0 ≤ i1 ∧ i1 ≤ n0 ∧ 0 ≤ i2 ∧ i2 ≤ i3 ∧ i3 ≤ n1 := by
  unfold Early at h
  have d0 : n0 ≤ 4096 := by
    by_cases c : n0 ≤ 4096
    · exact c
    · exact absurd (Or.inl (by omega)) h
  have d1 : n1 ≤ 4096 := by
    by_cases c : n1 ≤ 4096
    · exact c
    · exact absurd (Or.inr (Or.inl (⟨d0, by omega⟩))) h
  have d2 : n2 ≤ 65536 := by
    by_cases c : n2 ≤ 65536
    · exact c
    · exact absurd (Or.inr (Or.inr (Or.inl (⟨d0, d1, by omega⟩)))) h
  have d3 : n3 ≤ 65536 := by
    by_cases c : n3 ≤ 65536
    · exact c
    · exact absurd (Or.inr (Or.inr (Or.inr (Or.inl (⟨d0, d1, d2, by omega⟩))))) h
  have d4 : n4 ≤ 32768 := by
    by_cases c : n4 ≤ 32768
    · exact c
    · exact absurd (Or.inr (Or.inr (Or.inr (Or.inr (Or.inl (⟨d0, d1, d2, d3, by omega⟩)))))) h
  have d5 : n5 ≤ 32768 := by
    by_cases c : n5 ≤ 32768
    · exact c
    · exact absurd (Or.inr (Or.inr (Or.inr (Or.inr (Or.inr (Or.inl (⟨d0, d1, d2, d3, d4, by omega⟩))))))) h
  have d6 : 0 ≤ i0 := by
    by_cases c : 0 ≤ i0
    · exact c
    · exact absurd (Or.inr (Or.inr (Or.inr (Or.inr (Or.inr (Or.inr (Or.inl (⟨d0, d1, d2, d3, d4, d5, by omega⟩)))))))) h
  have d7 : i0 ≤ i1 := by
    by_cases c : i0 ≤ i1
    · exact c
    · exact absurd (Or.inr (Or.inr (Or.inr (Or.inr (Or.inr (Or.inr (Or.inr (Or.inl (⟨d0, d1, d2, d3, d4, d5, d6, by omega⟩))))))))) h
  have d8 : i1 ≤ (n0 : Int) := by
    by_cases c : i1 ≤ (n0 : Int)
    · exact c
    · exact absurd (Or.inr (Or.inr (Or.inr (Or.inr (Or.inr (Or.inr (Or.inr (Or.inr (Or.inl (⟨d0, d1, d2, d3, d4, d5, d6, d7, by omega⟩)))))))))) h
  have d9 : 0 ≤ i2 := by
    by_cases c : 0 ≤ i2
    · exact c
    · exact absurd (Or.inr (Or.inr (Or.inr (Or.inr (Or.inr (Or.inr (Or.inr (Or.inr (Or.inr (Or.inl (⟨d0, d1, d2, d3, d4, d5, d6, d7, d8, by omega⟩))))))))))) h
  have d10 : i2 ≤ i3 := by
    by_cases c : i2 ≤ i3
    · exact c
    · exact absurd (Or.inr (Or.inr (Or.inr (Or.inr (Or.inr (Or.inr (Or.inr (Or.inr (Or.inr (Or.inr (Or.inl (⟨d0, d1, d2, d3, d4, d5, d6, d7, d8, d9, by omega⟩)))))))))))) h
  have d11 : i3 ≤ (n1 : Int) := by
    by_cases c : i3 ≤ (n1 : Int)
    · exact c
    · exact absurd (Or.inr (Or.inr (Or.inr (Or.inr (Or.inr (Or.inr (Or.inr (Or.inr (Or.inr (Or.inr (Or.inr (⟨d0, d1, d2, d3, d4, d5, d6, d7, d8, d9, d10, by omega⟩)))))))))))) h
  exact ⟨⟨d0, d1, d2⟩, ⟨d3, d4, d5⟩, d6, d7, d8, d9, d10, d11⟩

/-! ### THE WALK -/
theorem walk (a0 : Option Addr) (len0 cap0 : Nat) (z0 : List Int) (a1 : Option Addr) (len1 cap1 : Nat) (z1 : List Int) (a2 : Option Addr) (len2 cap2 : Nat) (z2 : List Value) (a3 : Option Addr) (len3 cap3 : Nat) (z3 : List Value) (a4 : Option Addr) (len4 cap4 : Nat) (z4 : List Int) (a5 : Option Addr) (len5 cap5 : Nat) (z5 : List Int) (a6 : Int) (a7 : Int) (a8 : Int) (a9 : Int) (w : World) (w0 : IsRow .i64 w a0 len0 cap0 z0) (w1 : IsRow .i64 w a1 len1 cap1 z1) (w2 : Arg w a2 len2 z2) (w3 : Arg w a3 len3 z3) (w4 : IsRow .i64 w a4 len4 cap4 z4) (w5 : IsRow .i64 w a5 len5 cap5 z5) (w6 : (Lit.int .i64 a6).wf = true) (w7 : (Lit.int .i64 a7).wf = true) (w8 : (Lit.int .i64 a8).wf = true) (w9 : (Lit.int .i64 a9).wf = true) :
    Calls Try.prog 3 #[.slice a0 len0 cap0, .slice a1 len1 cap1, .slice a2 len2 cap2, .slice a3 len3 cap3, .slice a4 len4 cap4, .slice a5 len5 cap5, .int .i64 a6, .int .i64 a7, .int .i64 a8, .int .i64 a9] w fun e w' => e = .returned (.bool true) ∧ Below w.heap.size w w' := by
  by_cases he : Early len0 len1 len2 len3 len4 len5 a6 a7 a8 a9
  · exact early3 _ _ _ _ _ _ _ _ _ _ _ _ _ _ _ _ _ _ _ _ _ _ _ he
  · have hc := not_early he
    obtain ⟨lo, rfl⟩ := Int.eq_ofNat_of_zero_le hc.2.2.1
    obtain ⟨hi, rfl⟩ := Int.eq_ofNat_of_zero_le (Int.le_trans hc.2.2.1 hc.2.2.2.1)
    obtain ⟨lo', rfl⟩ := Int.eq_ofNat_of_zero_le hc.2.2.2.2.2.1
    obtain ⟨hi', rfl⟩ := Int.eq_ofNat_of_zero_le (Int.le_trans hc.2.2.2.2.2.1 hc.2.2.2.2.2.2.1)
    obtain ⟨⟨m0, m1, m2⟩, ⟨m3, m4, m5⟩, _, m6, m7, _, m8, m9⟩ := hc
    exact main3 a0 a1 a2 a3 a4 a5 len0 len1 len2 len3 len4 len5 cap0 cap1 cap2 cap3 cap4 cap5 lo hi lo' hi' w (z0.take len0) (z1.take len1) (z4.take len4) (z5.take len5) z2 z3 (arg_ints w0) (arg_ints w1) w2 w3 (arg_ints w4) (arg_ints w5) m0 m1 m2 m3 m4 m5 (by omega) (by omega) (by omega) (by omega)

/-! ### THE ROW's STEP: WRITTEN OUT: LEAVE IT -/
set_option maxRecDepth 100000 in
theorem lifted (os : Os) (started : os.Started) (H : Type) (enc : TypeId × Value → H) :
    ReturnsInHanded {} Try.checked os 3 .any (Rows.fnMiddleSnakeSplitsAShortestEditPathAtItsMiddleSpec.pre6 enc Try.prog Try.f3 Rows.fnMiddleSnakeSplitsAShortestEditPathAtItsMiddleRow.domain false) (Rows.fnMiddleSnakeSplitsAShortestEditPathAtItsMiddleSpec.post enc Try.prog Try.f3 false true false false) := by
  refine returnsInHanded_of_change (C := Try.checked) own started (by kernel_rfl) Try.func3
    (ChangeSpec.witness6 (enc := enc) (C := Try.checked) false ⟨#[], #[.slice none 0 0, .slice none 0 0, .slice none 0 0, .slice none 0 0, .slice none 0 0, .slice none 0 0, .int .i64 0, .int .i64 0, .int .i64 0, .int .i64 0], []⟩ 8 (by kernel_rfl) (by kernel_rfl) (by kernel_rfl) (by kernel_rfl)) ?_
  intro W base args ds gs before hval0 hW hcnd _
  have hval : ∀ (j : Nat) t v, Try.f3.params[j]? = some t → args[j]? = some v → Value.okWide Try.prog W .any base t v := hval0
  have hW' := hW
  obtain ⟨p, q, hA0, hV, rfl, hfz, hnd⟩ := hW
  have hA : DataW.TrodAll enc Try.prog W 0 (fun _ => true) true Try.f3.params.toList args.toList ds p := hA0
  rw [Try.params3] at hA hval
  obtain ⟨v0, vs0, d0, ds0, p0, q0, hargs, rfl, rfl, h0, r0⟩ := trodAll_cons hA
  obtain ⟨v1, vs1, d1, ds1, p1, q1, rfl, rfl, rfl, h1, r1⟩ := trodAll_cons r0
  obtain ⟨v2, vs2, d2, ds2, p2, q2, rfl, rfl, rfl, h2, r2⟩ := trodAll_cons r1
  obtain ⟨v3, vs3, d3, ds3, p3, q3, rfl, rfl, rfl, h3, r3⟩ := trodAll_cons r2
  obtain ⟨v4, vs4, d4, ds4, p4, q4, rfl, rfl, rfl, h4, r4⟩ := trodAll_cons r3
  obtain ⟨v5, vs5, d5, ds5, p5, q5, rfl, rfl, rfl, h5, r5⟩ := trodAll_cons r4
  obtain ⟨v6, vs6, d6, ds6, p6, q6, rfl, rfl, rfl, h6, r6⟩ := trodAll_cons r5
  obtain ⟨v7, vs7, d7, ds7, p7, q7, rfl, rfl, rfl, h7, r7⟩ := trodAll_cons r6
  obtain ⟨v8, vs8, d8, ds8, p8, q8, rfl, rfl, rfl, h8, r8⟩ := trodAll_cons r7
  obtain ⟨v9, vs9, d9, ds9, p9, q9, rfl, rfl, rfl, h9, r9⟩ := trodAll_cons r8
  obtain ⟨rfl, rfl, rfl⟩ := trodAll_nil r9
  obtain rfl : args = #[v0, v1, v2, v3, v4, v5, v6, v7, v8, v9] := by cases args; simp_all
  obtain ⟨rfl, rfl⟩ := trodVars_none hV
  obtain ⟨a0, len0, cap0, rfl⟩ := okWide_slice Try.underlying22 (hval 0 22 v0 rfl rfl)
  have k0 := h0
  have lt0 : ∀ x ∈ p0, x.block < W.heap.size := by obtain ⟨m, hm⟩ := k0; exact DataW.trod_lt m _ _ _ hm
  obtain ⟨z0, w0⟩ : ∃ zs, IsRow .i64 W a0 len0 cap0 zs := by
    obtain ⟨fuel, hf⟩ := h0
    rcases open_ints Try.underlying22 Try.underlying3 (by kernel_rfl) hf with ⟨hcs, _⟩ | ⟨x, l, c, zs, hcs, _, hl, hm, hz, _, hcell, hwz⟩
    · simp [Value.cells] at hcs
      obtain ⟨rfl, rfl, rfl⟩ := hcs
      exact ⟨[], .inl ⟨rfl, rfl, rfl, rfl⟩⟩
    · simp [Value.cells] at hcs
      obtain ⟨rfl, rfl, rfl⟩ := hcs
      exact ⟨zs, .inr ⟨_, rfl, hl, hm, by simpa using hz, hcell, hwz⟩⟩
  obtain ⟨a1, len1, cap1, rfl⟩ := okWide_slice Try.underlying22 (hval 1 22 v1 rfl rfl)
  have k1 := h1
  have lt1 : ∀ x ∈ p1, x.block < W.heap.size := by obtain ⟨m, hm⟩ := k1; exact DataW.trod_lt m _ _ _ hm
  obtain ⟨z1, w1⟩ : ∃ zs, IsRow .i64 W a1 len1 cap1 zs := by
    obtain ⟨fuel, hf⟩ := h1
    rcases open_ints Try.underlying22 Try.underlying3 (by kernel_rfl) hf with ⟨hcs, _⟩ | ⟨x, l, c, zs, hcs, _, hl, hm, hz, _, hcell, hwz⟩
    · simp [Value.cells] at hcs
      obtain ⟨rfl, rfl, rfl⟩ := hcs
      exact ⟨[], .inl ⟨rfl, rfl, rfl, rfl⟩⟩
    · simp [Value.cells] at hcs
      obtain ⟨rfl, rfl, rfl⟩ := hcs
      exact ⟨zs, .inr ⟨_, rfl, hl, hm, by simpa using hz, hcell, hwz⟩⟩
  obtain ⟨a2, len2, cap2, rfl⟩ := okWide_slice Try.underlying23 (hval 2 23 v2 rfl rfl)
  have k2 := h2
  have lt2 : ∀ x ∈ p2, x.block < W.heap.size := by obtain ⟨m, hm⟩ := k2; exact DataW.trod_lt m _ _ _ hm
  obtain ⟨z2, w2⟩ : ∃ cs, Arg W a2 len2 cs := by
    obtain ⟨fuel, hf⟩ := h2
    rcases Go.Deep.open_bools Try.underlying23 Try.underlying4 (by kernel_rfl) hf with ⟨hcs, _⟩ | ⟨x, l, c, Bf, hcs, _, hl, hm, _, hcell⟩
    · simp [Value.cells] at hcs
      obtain ⟨rfl, rfl, rfl⟩ := hcs
      exact ⟨[], arg_nil W⟩
    · simp [Value.cells] at hcs
      obtain ⟨rfl, rfl, rfl⟩ := hcs
      exact ⟨_, arg_bools hl hcell⟩
  obtain ⟨a3, len3, cap3, rfl⟩ := okWide_slice Try.underlying23 (hval 3 23 v3 rfl rfl)
  have k3 := h3
  have lt3 : ∀ x ∈ p3, x.block < W.heap.size := by obtain ⟨m, hm⟩ := k3; exact DataW.trod_lt m _ _ _ hm
  obtain ⟨z3, w3⟩ : ∃ cs, Arg W a3 len3 cs := by
    obtain ⟨fuel, hf⟩ := h3
    rcases Go.Deep.open_bools Try.underlying23 Try.underlying4 (by kernel_rfl) hf with ⟨hcs, _⟩ | ⟨x, l, c, Bf, hcs, _, hl, hm, _, hcell⟩
    · simp [Value.cells] at hcs
      obtain ⟨rfl, rfl, rfl⟩ := hcs
      exact ⟨[], arg_nil W⟩
    · simp [Value.cells] at hcs
      obtain ⟨rfl, rfl, rfl⟩ := hcs
      exact ⟨_, arg_bools hl hcell⟩
  obtain ⟨a4, len4, cap4, rfl⟩ := okWide_slice Try.underlying22 (hval 4 22 v4 rfl rfl)
  have k4 := h4
  have lt4 : ∀ x ∈ p4, x.block < W.heap.size := by obtain ⟨m, hm⟩ := k4; exact DataW.trod_lt m _ _ _ hm
  obtain ⟨z4, w4⟩ : ∃ zs, IsRow .i64 W a4 len4 cap4 zs := by
    obtain ⟨fuel, hf⟩ := h4
    rcases open_ints Try.underlying22 Try.underlying3 (by kernel_rfl) hf with ⟨hcs, _⟩ | ⟨x, l, c, zs, hcs, _, hl, hm, hz, _, hcell, hwz⟩
    · simp [Value.cells] at hcs
      obtain ⟨rfl, rfl, rfl⟩ := hcs
      exact ⟨[], .inl ⟨rfl, rfl, rfl, rfl⟩⟩
    · simp [Value.cells] at hcs
      obtain ⟨rfl, rfl, rfl⟩ := hcs
      exact ⟨zs, .inr ⟨_, rfl, hl, hm, by simpa using hz, hcell, hwz⟩⟩
  obtain ⟨a5, len5, cap5, rfl⟩ := okWide_slice Try.underlying22 (hval 5 22 v5 rfl rfl)
  have k5 := h5
  have lt5 : ∀ x ∈ p5, x.block < W.heap.size := by obtain ⟨m, hm⟩ := k5; exact DataW.trod_lt m _ _ _ hm
  obtain ⟨z5, w5⟩ : ∃ zs, IsRow .i64 W a5 len5 cap5 zs := by
    obtain ⟨fuel, hf⟩ := h5
    rcases open_ints Try.underlying22 Try.underlying3 (by kernel_rfl) hf with ⟨hcs, _⟩ | ⟨x, l, c, zs, hcs, _, hl, hm, hz, _, hcell, hwz⟩
    · simp [Value.cells] at hcs
      obtain ⟨rfl, rfl, rfl⟩ := hcs
      exact ⟨[], .inl ⟨rfl, rfl, rfl, rfl⟩⟩
    · simp [Value.cells] at hcs
      obtain ⟨rfl, rfl, rfl⟩ := hcs
      exact ⟨zs, .inr ⟨_, rfl, hl, hm, by simpa using hz, hcell, hwz⟩⟩
  obtain ⟨a6, rfl, rfl, rfl, w6⟩ := open_int Try.underlying3 (hval 6 3 v6 rfl rfl) h6
  obtain ⟨a7, rfl, rfl, rfl, w7⟩ := open_int Try.underlying3 (hval 7 3 v7 rfl rfl) h7
  obtain ⟨a8, rfl, rfl, rfl, w8⟩ := open_int Try.underlying3 (hval 8 3 v8 rfl rfl) h8
  obtain ⟨a9, rfl, rfl, rfl, w9⟩ := open_int Try.underlying3 (hval 9 3 v9 rfl rfl) h9
  clear hA0 hval0
  refine (walk a0 len0 cap0 z0 a1 len1 cap1 z1 a2 len2 cap2 z2 a3 len3 cap3 z3 a4 len4 cap4 z4 a5 len5 cap5 z5 a6 a7 a8 a9 W w0 w1 w2 w3 w4 w5 w6 w7 w8 w9).mono fun e W' ⟨he, bel⟩ => ?_
  subst he
  exact ⟨_, rfl, _, _, _, [], _, [], hW', trodAll_mk1 (shut_bool Try.underlying4 _), (trodAll_cons_mk (Below.trod laidOut (by kernel_rfl) (of_decide_eq_true (by kernel_rfl)) k0 bel lt0) (trodAll_cons_mk (Below.trod laidOut (by kernel_rfl) (of_decide_eq_true (by kernel_rfl)) k1 bel lt1) (trodAll_cons_mk (Below.trod laidOut (by kernel_rfl) (of_decide_eq_true (by kernel_rfl)) k2 bel lt2) (trodAll_cons_mk (Below.trod laidOut (by kernel_rfl) (of_decide_eq_true (by kernel_rfl)) k3 bel lt3) (trodAll_cons_mk (Below.trod laidOut (by kernel_rfl) (of_decide_eq_true (by kernel_rfl)) k4 bel lt4) (trodAll_cons_mk (Below.trod laidOut (by kernel_rfl) (of_decide_eq_true (by kernel_rfl)) k5 bel lt5) (trodAll_cons_mk (shut_int Try.underlying3 w6) (trodAll_cons_mk (shut_int Try.underlying3 w7) (trodAll_cons_mk (shut_int Try.underlying3 w8) (trodAll_cons_mk (shut_int Try.underlying3 w9) trodAll_mk0)))))))))), rfl, bel.frame _, fun h => by cases h⟩

theorem over : Rows.fnMiddleSnakeSplitsAShortestEditPathAtItsMiddleRow.holds Try.pinned (OpenSpec.ofChange Rows.fnMiddleSnakeSplitsAShortestEditPathAtItsMiddleSpec) :=
  OpenClaim.holds_of_wide 3 Try.f3 rfl rfl rfl rfl rfl rfl rfl ⟨rfl, rfl, rfl, rfl, rfl⟩ rfl rfl rfl rfl rfl (by kernel_rfl) Try.func3 (by kernel_rfl)
    (of_decide_eq_true (by kernel_rfl)) (by unfold Func.isWrapper; first | (rw [if_pos (by decide +kernel)]; kernel_rfl) | (rw [if_neg (by decide +kernel)]; exact ⟨rfl, rfl⟩))
    (fun os started H enc _ => lifted os started H enc)

/-- ████ THE STATEMENT ████ -/
theorem proved : Rows.FnMiddleSnakeSplitsAShortestEditPathAtItsMiddleSaid := over
end Go.Proofs.Qxb6617690a.fnMiddleSnakeSplitsAShortestEditPathAtItsMiddle
