/- The plain law: what the words list, lowest bit first, is the set in rising order. -/
import Derived.Lib.TrailingZeros
namespace Go.Proofs.Qxb6616078aDoor.Plain
open Go.Lib

/-- The bits that are set, lowest first. -/
def lst (x : Nat) : List Nat := (List.range 64).filter fun i => x.testBit i

theorem filter_none {p : Nat → Bool} {l : List Nat} (h : ∀ i ∈ l, p i = false) : l.filter p = [] := by
  rw [List.filter_eq_nil_iff]
  intro a ha
  rw [h a ha]
  simp

theorem first_of {p q : Nat → Bool} {n t : Nat} (ht : t < n) (hp : ∀ i, i < t → p i = false) (hpt : p t = true) (hq : ∀ i, i < t → q i = false) (hqt : q t = false) (hs : ∀ i, t < i → q i = p i) :
    (List.range n).filter p = t :: (List.range n).filter q := by
  have e : List.range n = List.range t ++ (t :: List.range' (t + 1) (n - t - 1)) := by
    rw [List.range_eq_range', List.range_eq_range', show n = t + ((n - t - 1) + 1) from by omega, ← List.range'_append_1, Nat.zero_add, List.range'_succ]
    congr 3
    omega
  rw [e, List.filter_append, List.filter_append, filter_none (p := p) (fun i hi => hp i (List.mem_range.1 hi)), filter_none (p := q) (fun i hi => hq i (List.mem_range.1 hi)), List.nil_append, List.nil_append,
    List.filter_cons_of_pos (by simpa using hpt), List.filter_cons_of_neg (by simp [hqt])]
  congr 1
  apply List.filter_congr
  intro i hi
  rw [List.mem_range'_1] at hi
  exact (hs i (by omega)).symm

theorem lst_zero : lst 0 = [] := filter_none fun i _ => Nat.zero_testBit i

theorem lst_step (x : Nat) (h0 : x ≠ 0) (hx : x < 18446744073709551616) : lst x = ctz 64 x :: lst (x &&& (x - 1)) ∧ ctz 64 x < 64 := by
  obtain ⟨m, hm, hk⟩ := ctzFrom_spec 64 x (by omega) hx
  have e : ctz 64 x = ctzFrom 64 x := by simp [ctz, h0]
  rw [e]
  obtain ⟨t, et⟩ : ∃ t, t = ctzFrom 64 x := ⟨_, rfl⟩
  rw [← et] at hm hk ⊢
  have hp : 0 < 2 ^ t := Nat.two_pow_pos t
  have hm1 : x - 1 = 2 ^ t * (2 * m) + (2 ^ t - 1) := by
    rw [hm, Nat.mul_add, Nat.mul_one]
    omega
  have bx : ∀ i, x.testBit i = (decide (t ≤ i) && (2 * m + 1).testBit (i - t)) := by
    intro i
    rw [hm, Nat.mul_comm, Nat.testBit_mul_two_pow]
  have by1 : ∀ i, t ≤ i → (x - 1).testBit i = (2 * m).testBit (i - t) := by
    intro i hi
    rw [hm1, Nat.testBit_two_pow_mul_add _ (by omega), if_neg (by omega)]
  refine ⟨first_of hk ?_ ?_ ?_ ?_ ?_, hk⟩
  · intro i hi
    rw [bx]
    simp
    omega
  · rw [bx]
    simp [Nat.testBit_zero]
  · intro i hi
    show (x &&& (x - 1)).testBit i = false
    rw [Nat.testBit_and, bx]
    have : ¬ t ≤ i := by omega
    simp [this]
  · show (x &&& (x - 1)).testBit t = false
    rw [Nat.testBit_and, by1 t (Nat.le_refl _)]
    simp [Nat.testBit_zero]
  · intro i hi
    show (x &&& (x - 1)).testBit i = x.testBit i
    rw [Nat.testBit_and, by1 i (by omega), bx]
    obtain ⟨j, rfl⟩ : ∃ j, i = t + (j + 1) := ⟨i - t - 1, by omega⟩
    have e3 : t + (j + 1) - t = j + 1 := by omega
    rw [e3, Nat.testBit_succ, Nat.testBit_succ]
    have d1 : (2 * m + 1) / 2 = m := by omega
    have d2 : 2 * m / 2 = m := by omega
    rw [d1, d2]
    have : t ≤ t + (j + 1) := by omega
    simp

/-- What all the words from number j on list. -/
def allFrom : Nat → List Nat → List Nat
  | _, [] => []
  | j, x :: F => (lst x).map (fun i => j * 64 + i) ++ allFrom (j + 1) F

theorem allFrom_drop (F : List Nat) (k : Nat) (hk : k < F.length) : allFrom k (F.drop k) = (lst (F.getD k 0)).map (fun i => k * 64 + i) ++ allFrom (k + 1) (F.drop (k + 1)) := by
  rw [List.drop_eq_getElem_cons hk, allFrom]
  simp [hk]

theorem word_eq (p : Nat → Bool) (x j : Nat) (h : ∀ b, b < 64 → x.testBit b = p (j * 64 + b)) : (lst x).map (fun i => j * 64 + i) = (List.range' (j * 64) 64).filter p := by
  rw [List.range'_eq_map_range, List.filter_map]
  congr 1
  apply List.filter_congr
  intro i hi
  exact h i (List.mem_range.1 hi)

theorem allFrom_eq (p : Nat → Bool) : ∀ (F : List Nat) (j : Nat), (∀ i, i < F.length → ∀ b, b < 64 → (F.getD i 0).testBit b = p ((j + i) * 64 + b)) → allFrom j F = (List.range' (j * 64) (F.length * 64)).filter p
  | [], j, _ => by simp [allFrom]
  | x :: F, j, h => by
    have h0 := word_eq p x j fun b hb => by simpa using h 0 (by simp) b hb
    have ih := allFrom_eq p F (j + 1) fun i hi b hb => by
      have := h (i + 1) (by simp; omega) b hb
      rw [List.getD_cons_succ] at this
      rw [this]
      congr 2
      omega
    rw [allFrom, h0, ih]
    have e : (x :: F).length * 64 = 64 + F.length * 64 := by simp; omega
    rw [e, ← List.range'_append_1, List.filter_append]
    congr 3
    omega

/-- ALL WORDS LIST JUST THE SET, RISING. -/
theorem all_words (p : Nat → Bool) (F : List Nat) (top : Nat) (hF : F.length = (top + 63) / 64) (hb : ∀ i, i < F.length → ∀ b, b < 64 → (F.getD i 0).testBit b = p (i * 64 + b)) (ht : ∀ v, top ≤ v → p v = false) :
    allFrom 0 F = (List.range top).filter p := by
  rw [allFrom_eq p F 0 (fun i hi b hbb => by rw [Nat.zero_add]; exact hb i hi b hbb), List.range_eq_range', show F.length * 64 = top + (F.length * 64 - top) from by omega, Nat.zero_mul, ← List.range'_append_1, List.filter_append]
  rw [filter_none (l := List.range' (0 + top) (F.length * 64 - top)) (fun i hi => ht i (by rw [List.mem_range'_1] at hi; omega)), List.append_nil]

theorem lst_len (x : Nat) : (lst x).length ≤ 64 := by
  have := List.length_filter_le (fun i => x.testBit i) (List.range 64)
  rwa [List.length_range] at this

/-- A bit is set. -/
theorem or_bit (x m b : Nat) : (x ||| 2 ^ m).testBit b = (x.testBit b || decide (b = m)) := by
  rw [Nat.testBit_or, Nat.testBit_two_pow]
  congr 1
  by_cases h : m = b
  · subst h; simp
  · have : ¬ b = m := fun e => h e.symm
    simp [h, this]

theorem and_pred_lt (x : Nat) (h0 : x ≠ 0) : x &&& (x - 1) < x := by
  have := Nat.and_le_right (n := x) (m := x - 1)
  omega

/-- WHAT THE WORDS HOLD BEHIND k MEMBERS. -/
structure Bits (F : List Nat) (nw : Nat) (L : List Nat) : Prop where
  len : F.length = nw
  lt : ∀ j, F.getD j 0 < 18446744073709551616
  bit : ∀ j, j < nw → ∀ b, b < 64 → (F.getD j 0).testBit b = decide (j * 64 + b ∈ L)

theorem Bits.zero (nw : Nat) : Bits (List.replicate nw 0) nw [] := by
  refine ⟨by simp, fun j => ?_, fun j hj b _ => ?_⟩
  · by_cases h : j < nw <;> simp [List.getD, h]
  · simp [List.getD, hj]

theorem Bits.set {F : List Nat} {nw : Nat} {L : List Nat} (h : Bits F nw L) (m : Nat) (hm : m / 64 < nw) : Bits (F.set (m / 64) (F.getD (m / 64) 0 ||| 2 ^ (m % 64))) nw (L ++ [m]) := by
  have hmod : m % 64 < 64 := Nat.mod_lt _ (by decide)
  refine ⟨by simp [h.len], fun j => ?_, fun j hj b hb => ?_⟩
  · by_cases e : m / 64 = j
    · subst e
      rw [List.getD_eq_getElem?_getD, List.getElem?_set_self (by rw [h.len]; exact hm)]
      exact Nat.or_lt_two_pow (n := 64) (h.lt _) (Nat.pow_lt_pow_right (by decide) hmod)
    · rw [List.getD_eq_getElem?_getD, List.getElem?_set_ne e, ← List.getD_eq_getElem?_getD]
      exact h.lt j
  · by_cases e : m / 64 = j
    · subst e
      rw [List.getD_eq_getElem?_getD, List.getElem?_set_self (by rw [h.len]; exact hm), Option.getD_some, or_bit, h.bit _ hj b hb]
      have : (m / 64 * 64 + b = m) ↔ b = m % 64 := by omega
      simp [List.mem_append, this]
    · rw [List.getD_eq_getElem?_getD, List.getElem?_set_ne e, ← List.getD_eq_getElem?_getD, h.bit j hj b hb]
      have : ¬ (j * 64 + b = m) := by omega
      simp [List.mem_append, this]

/-- The marks behind k members. -/
structure Marks (S : List Bool) (L : List Nat) : Prop where
  len : S.length = 65536
  mark : ∀ v, v < 65536 → S.getD v false = decide (v ∈ L)

theorem Marks.zero : Marks (List.replicate 65536 false) [] := by
  refine ⟨List.length_replicate, fun v hv => ?_⟩
  rw [List.getD_eq_getElem?_getD, List.getElem?_replicate, if_pos hv]
  simp

theorem Marks.set {S : List Bool} {L : List Nat} (h : Marks S L) (m : Nat) (hm : m < 65536) : Marks (S.set m true) (L ++ [m]) := by
  refine ⟨by rw [List.length_set]; exact h.len, fun v hv => ?_⟩
  by_cases e : m = v
  · subst e
    rw [List.getD_eq_getElem?_getD, List.getElem?_set_self (by rw [h.len]; exact hm)]
    simp
  · rw [List.getD_eq_getElem?_getD, List.getElem?_set_ne e, ← List.getD_eq_getElem?_getD, h.mark v hv]
    have : ¬ v = m := fun x => e x.symm
    simp [List.mem_append, this]

/-- What the upward count has gathered. -/
def asc (L : List Nat) (v : Nat) : List Nat := (List.range v).filter fun i => decide (i ∈ L)
theorem asc_zero (L : List Nat) : asc L 0 = [] := rfl
theorem asc_hit {L : List Nat} {v : Nat} (h : v ∈ L) : asc L (v + 1) = asc L v ++ [v] := by
  unfold asc
  rw [List.range_succ, List.filter_append, List.filter_cons_of_pos (by simpa using h), List.filter_nil]
theorem asc_miss {L : List Nat} {v : Nat} (h : ¬ v ∈ L) : asc L (v + 1) = asc L v := by
  unfold asc
  rw [List.range_succ, List.filter_append, List.filter_cons_of_neg (by simpa using h), List.filter_nil, List.append_nil]
theorem asc_len (L : List Nat) (v : Nat) : (asc L v).length ≤ v := by
  have := List.length_filter_le (fun i => decide (i ∈ L)) (List.range v)
  rwa [List.length_range] at this

theorem take_step (L : List Nat) (k : Nat) (hk : k < L.length) : L.take (k + 1) = L.take k ++ [L.getD k 0] := by
  rw [List.take_add_one, List.getElem?_eq_getElem hk]
  simp [hk]

/-- THE PLAIN LAW. -/
theorem plain_law {F : List Nat} {L : List Nat} {top : Nat} (h : Bits F ((top + 63) / 64) L) (ht : ∀ v, v ∈ L → v < top) : allFrom 0 F = asc L top :=
  all_words (fun i => decide (i ∈ L)) F top h.len (fun i hi b hb => h.bit i (by rw [← h.len]; exact hi) b hb) (fun v hv => by
    have : ¬ v ∈ L := fun hm => by have := ht v hm; omega
    simp [this])

end Go.Proofs.Qxb6616078aDoor.Plain
