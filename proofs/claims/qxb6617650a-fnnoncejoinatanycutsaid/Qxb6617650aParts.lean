import Derived.WalkKit
import Derived.Lib.Strings
namespace Go.Proofs.Qxb6617650a.Plain

def digB (c : UInt8) : Bool := decide (48 ≤ c.toNat) && decide (c.toNat ≤ 57)
def wfL (l : List UInt8) : Bool := (decide (1 ≤ l.length) && decide (l.length ≤ 20)) && l.all digB
def wfN (s : ByteArray) : Bool := wfL s.data.toList

theorem wfN_len {s : ByteArray} (h : s.size = 0 ∨ 20 < s.size) : wfN s = false := by
  have e : s.data.toList.length = s.size := by rw [Array.length_toList]; rfl
  unfold wfN wfL
  rw [e]
  rcases h with h | h
  · simp [h]
  · have : ¬ s.size ≤ 20 := by omega
    simp [this]

theorem take_snoc (s : ByteArray) (k : Nat) (h : k < s.size) : s.data.toList.take (k + 1) = s.data.toList.take k ++ [s[k]] := by
  rw [List.take_succ_eq_append_getElem (by simpa using h)]; rfl

theorem wfN_no {s : ByteArray} (k : Nat) (h : k < s.size) (hd : (s[k].toNat : Int) < 48 ∨ (57 : Int) < (s[k].toNat : Int)) : wfN s = false := by
  have hm : s[k] ∈ s.data.toList := by
    have : s[k] = s.data.toList[k]'(by simpa using h) := rfl
    rw [this]; exact List.getElem_mem _
  have hf : digB s[k] = false := by
    unfold digB
    rcases hd with hd | hd
    · have : ¬ 48 ≤ s[k].toNat := by omega
      simp [this]
    · have : ¬ s[k].toNat ≤ 57 := by omega
      simp [this]
  have ha : s.data.toList.all digB = false := by
    rw [Bool.eq_false_iff]
    intro h
    rw [List.all_eq_true] at h
    have := h _ hm
    rw [hf] at this
    cases this
  unfold wfN wfL
  rw [ha]
  simp

theorem all_snoc {s : ByteArray} {k : Nat} (h : k < s.size) (ha : (s.data.toList.take k).all digB = true) (h1 : ¬ (s[k].toNat : Int) < 48) (h2 : ¬ (57 : Int) < (s[k].toNat : Int)) : (s.data.toList.take (k + 1)).all digB = true := by
  rw [take_snoc s k h, List.all_append, ha]
  have : digB s[k] = true := by
    unfold digB
    have a1 : 48 ≤ s[k].toNat := by omega
    have a2 : s[k].toNat ≤ 57 := by omega
    simp [a1, a2]
  simp [this]

theorem wfN_yes {s : ByteArray} (h1 : 1 ≤ s.size) (h2 : s.size ≤ 20) (ha : (s.data.toList.take s.size).all digB = true) : wfN s = true := by
  have e : s.data.toList.length = s.size := by rw [Array.length_toList]; rfl
  rw [List.take_of_length_le (by omega)] at ha
  unfold wfN wfL
  rw [e, ha]
  simp [h1, h2]

theorem wfL_of_le {l : List UInt8} (h : l.length ≤ 20) : (l.isEmpty || wfL l) = l.all digB := by
  unfold wfL
  cases l with
  | nil => rfl
  | cons x t =>
    have h1 : 1 ≤ (x :: t).length := by simp
    simp only [List.isEmpty_cons, Bool.false_or, h, h1, decide_true, Bool.true_and]

/-- A text cut in two: well formed just when its length is 1 to 20 and each part that is not empty is. -/
theorem join_two (x y : List UInt8) : wfL (x ++ y) = ((decide (1 ≤ (x ++ y).length) && decide ((x ++ y).length ≤ 20)) && ((x.isEmpty || wfL x) && (y.isEmpty || wfL y))) := by
  by_cases h : (x ++ y).length ≤ 20
  · have h' := h
    rw [List.length_append] at h'
    rw [wfL_of_le (l := x) (by omega), wfL_of_le (l := y) (by omega)]
    unfold wfL
    rw [List.all_append]
  · unfold wfL
    simp only [h, decide_false, Bool.and_false, Bool.false_and]

/-- A well-formed text put between the two parts. -/
theorem join_three (x d y : List UInt8) (hd : wfL d = true) : wfL (x ++ d ++ y) = (decide ((x ++ y).length + d.length ≤ 20) && ((x.isEmpty || wfL x) && (y.isEmpty || wfL y))) := by
  have hd' := hd
  unfold wfL at hd'
  simp only [Bool.and_eq_true, decide_eq_true_eq] at hd'
  obtain ⟨⟨d1, d2⟩, d3⟩ := hd'
  by_cases h : (x ++ y).length + d.length ≤ 20
  · have h' := h
    rw [List.length_append] at h'
    rw [wfL_of_le (l := x) (by omega), wfL_of_le (l := y) (by omega)]
    unfold wfL
    have e1 : 1 ≤ (x ++ d ++ y).length := by simp only [List.length_append]; omega
    have e2 : (x ++ d ++ y).length ≤ 20 := by simp only [List.length_append]; omega
    rw [List.all_append, List.all_append, d3]
    simp only [e1, e2, h, decide_true, Bool.true_and, Bool.and_true]
  · unfold wfL
    have e2 : ¬ (x ++ d ++ y).length ≤ 20 := by simp only [List.length_append] at h ⊢; omega
    simp only [e2, h, decide_false, Bool.and_false, Bool.false_and]

theorem len_bytes (s : ByteArray) : s.data.toList.length = s.size := by rw [Array.length_toList]; rfl

theorem cut (s : ByteArray) (k : Nat) : (s.extract 0 k).data.toList ++ (s.extract k s.size).data.toList = s.data.toList := by
  rw [Lib.extract_data, Lib.extract_data, List.drop_zero, Nat.sub_zero, List.take_of_length_le (l := s.data.toList.drop k) (by rw [List.length_drop, len_bytes]; omega)]
  exact List.take_append_drop _ _

theorem whole_eq (s : ByteArray) (k : Nat) :
    wfN s = ((decide (1 ≤ s.size) && decide (s.size ≤ 20)) && (((s.extract 0 k).toList.isEmpty || wfN (s.extract 0 k)) && ((s.extract k s.size).toList.isEmpty || wfN (s.extract k s.size)))) := by
  have h := join_two (s.extract 0 k).data.toList (s.extract k s.size).data.toList
  rw [cut s k, len_bytes] at h
  rw [Lib.toList_data, Lib.toList_data]
  exact h

theorem inserted_eq (s d : ByteArray) (k : Nat) (hd : wfN d = true) :
    wfN (s.extract 0 k ++ d ++ s.extract k s.size) = (decide (s.size + d.size ≤ 20) && (((s.extract 0 k).toList.isEmpty || wfN (s.extract 0 k)) && ((s.extract k s.size).toList.isEmpty || wfN (s.extract k s.size)))) := by
  have h := join_three (s.extract 0 k).data.toList d.data.toList (s.extract k s.size).data.toList hd
  rw [cut s k, len_bytes, len_bytes] at h
  rw [Lib.toList_data, Lib.toList_data]
  unfold wfN
  rw [ByteArray.data_append, ByteArray.data_append, Array.toList_append, Array.toList_append]
  exact h

theorem part_ways (x : ByteArray) : (x.toList.isEmpty = true ∧ wfN x = false) ∨ (x.toList.isEmpty = false ∧ wfN x = false) ∨ (x.toList.isEmpty = false ∧ wfN x = true) := by
  cases hx : x.toList.isEmpty
  · cases wfN x
    · exact Or.inr (Or.inl ⟨rfl, rfl⟩)
    · exact Or.inr (Or.inr ⟨rfl, rfl⟩)
  · left
    refine ⟨rfl, ?_⟩
    rw [Lib.toList_data] at hx
    unfold wfN wfL
    rw [List.isEmpty_iff.1 hx]
    rfl

theorem empty_size (x : ByteArray) : x.toList.isEmpty = true ↔ x.size = 0 := by
  rw [Lib.toList_data, List.isEmpty_iff, ← len_bytes, List.length_eq_zero_iff]

theorem size_parts (s : ByteArray) (k : Nat) (hk : k ≤ s.size) : (s.extract 0 k).size = k ∧ (s.extract k s.size).size = s.size - k := by
  constructor
  · rw [ByteArray.size_extract]; omega
  · rw [ByteArray.size_extract]; omega

theorem wfN_size {d : ByteArray} (h : wfN d = true) : d.size ≤ 20 := by
  unfold wfN wfL at h
  rw [len_bytes] at h
  simp only [Bool.and_eq_true, decide_eq_true_eq] at h
  exact h.1.2

theorem hide {p : Prop} (h : p) : Go.RowKit.Hid p := h
theorem unhide {p : Prop} (h : Go.RowKit.Hid p) : p := h
end Go.Proofs.Qxb6617650a.Plain
