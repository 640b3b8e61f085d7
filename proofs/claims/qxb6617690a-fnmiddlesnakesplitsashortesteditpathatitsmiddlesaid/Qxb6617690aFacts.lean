import Derived.Test.Qxb6617690aAns
import Derived.Test.Qxb6617690aArgs
namespace Go.Proofs.Qxb6617690a
open Go.RowKit Plain

theorem sl_und : Try.prog.underlying 22 = some (.slice (Try.prog.elem 22)) := by kernel_rfl
theorem sl_size (w : World) : (sizeOf (Try.prog.elem 22)).run Try.prog w = .ok 1 w := by kernel_rfl

/-- 's[lo:hi]' -/
theorem slice_any (oa : Option Addr) (n cap lo hi : Nat) (h1 : lo ≤ hi) (h2 : hi ≤ cap) :
    ∃ oa2, (∀ W, (Instr.slice 22 (.slice oa n cap) (some (.int .i64 (lo : Int))) (some (.int .i64 (hi : Int))) none).run Try.prog W = .ok (.slice oa2 (hi - lo) (cap - lo)) W) ∧
      (∀ g p, oa = some ⟨g, p, none⟩ → 0 < hi - lo → oa2 = some ⟨g, p + lo, none⟩) := by
  refine ⟨if cap = lo then oa else oa.map (·.add (lo * 1)), fun W => ?_, fun g p e hp => ?_⟩
  · rw [run_slice_lh W 22 oa n cap sl_und .i64 .i64 lo hi (by omega) (by omega) (by omega), sl_size]
    simp [Result.andThen, sliced]
  · rw [if_neg (by omega), e]
    simp [addr_add]

/-- The four tables that the law makes. -/
structure Four (wd w8 : World) (g5 g6 g7 g8 : Nat) (ZF ZG : List Int) : Prop where
  h5 : w8.heap[g5]? = some (ints ZF)
  h6 : w8.heap[g6]? = some (ints ZG)
  h7 : w8.heap[g7]? = some (ints ZF)
  h8 : w8.heap[g8]? = some (ints ZG)
  o5 : wd.heap.size ≤ g5
  o6 : g5 < g6
  o7 : g6 < g7
  o8 : g7 < g8
  bel : Below wd.heap.size wd w8

theorem four_of {wd w5 w6 w7 w8 : World} {ZF ZG : List Int}
    (q5 : w5.heap[wd.heap.size]? = some (ints ZF) ∧ Below wd.heap.size wd w5 ∧ wd.heap.size < w5.heap.size)
    (q6 : w6.heap[w5.heap.size]? = some (ints ZG) ∧ Below w5.heap.size w5 w6 ∧ w5.heap.size < w6.heap.size)
    (q7 : w7.heap[w6.heap.size]? = some (ints ZF) ∧ Below w6.heap.size w6 w7 ∧ w6.heap.size < w7.heap.size)
    (q8 : w8.heap[w7.heap.size]? = some (ints ZG) ∧ Below w7.heap.size w7 w8 ∧ w7.heap.size < w8.heap.size) :
    Four wd w8 wd.heap.size w5.heap.size w6.heap.size w7.heap.size ZF ZG := by
  obtain ⟨r5, b5, l5⟩ := q5
  obtain ⟨r6, b6, l6⟩ := q6
  obtain ⟨r7, b7, l7⟩ := q7
  obtain ⟨r8, b8, l8⟩ := q8
  refine ⟨?_, ?_, ?_, r8, Nat.le_refl _, l5, l6, l7, ?_⟩
  · rw [b8.block _ (by omega), b7.block _ (by omega), b6.block _ (by omega)]; exact r5
  · rw [b8.block _ (by omega), b7.block _ (by omega)]; exact r6
  · rw [b8.block _ (by omega)]; exact r7
  · exact ((b5.trans (b6.mono (by omega))).trans (b7.mono (by omega))).trans (b8.mono (by omega))

/-- The part of Z from lo on, n long. -/
def cut (Z : List Int) (lo n : Nat) : List Int := (Z.drop lo).take n

theorem cut_len {Z : List Int} {lo n : Nat} (h : lo + n ≤ Z.length) : (cut Z lo n).length = n := by
  unfold cut
  rw [List.length_take, List.length_drop]
  omega

theorem cut_at {Z : List Int} {lo n i : Nat} (hi : i < n) : (cut Z lo n).getD i 0 = Z.getD (lo + i) 0 := by
  unfold cut
  rw [List.getD_eq_getElem?_getD, List.getElem?_take, if_pos hi, List.getElem?_drop, ← List.getD_eq_getElem?_getD]

/-- The whole text, from lo on. -/
theorem stretch_whole {w : World} {oa : Option Addr} {n cap g base lo m : Nat} {Z : List Int} (h : Copied w oa n cap g Z base) (hl : lo + m ≤ n) : Stretch w (cut Z lo m) lo n oa g 0 := by
  have hlen := cut_len (Z := Z) (lo := lo) (n := m) (by have := h.len; omega)
  refine ⟨by omega, fun hp => ?_, fun i hi => ?_⟩
  · obtain ⟨a, _, _, d⟩ := h.at0 (by omega)
    exact ⟨a, d⟩
  · obtain ⟨_, b, _, _⟩ := h.at0 (by omega)
    rw [cut_at (by omega), Nat.zero_add]
    exact ints_cell b _ (by have := h.len; omega)

/-- The part alone. -/
theorem stretch_part {w : World} {oa oa2 : Option Addr} {n cap g base lo m : Nat} {Z : List Int} (h : Copied w oa n cap g Z base) (hl : lo + m ≤ n) (h2 : ∀ g p, oa = some ⟨g, p, none⟩ → 0 < m → oa2 = some ⟨g, p + lo, none⟩) :
    Stretch w (cut Z lo m) 0 m oa2 g lo := by
  have hlen := cut_len (Z := Z) (lo := lo) (n := m) (by have := h.len; omega)
  refine ⟨by omega, fun hp => ?_, fun i hi => ?_⟩
  · obtain ⟨a, _, _, d⟩ := h.at0 (by omega)
    exact ⟨by have := h2 g 0 a (by omega); rwa [Nat.zero_add] at this, d⟩
  · obtain ⟨_, b, _, _⟩ := h.at0 (by omega)
    rw [cut_at (by omega), Nat.zero_add]
    exact ints_cell b _ (by have := h.len; omega)

/-- A copy stays where two other blocks are touched. -/
theorem Copied.touch {w w' : World} {oa : Option Addr} {n cap g base bf bg : Nat} {Z : List Int} (h : Copied w oa n cap g Z base) (ht : Touch (fun k => k = bf ∨ k = bg) w w') (hf : 0 < n → g ≠ bf ∧ g ≠ bg) : Copied w' oa n cap g Z base :=
  ⟨h.len, fun hp => by obtain ⟨a, b, c, d⟩ := h.at0 hp; have := hf hp; exact ⟨a, by rw [ht.block g d (by omega)]; exact b, c, Nat.lt_of_lt_of_le d ht.size⟩, h.nil, h.room⟩

theorem Copied.lower {w : World} {oa : Option Addr} {n cap g base base' : Nat} {Z : List Int} (h : Copied w oa n cap g Z base) (hb : base' ≤ base) : Copied w oa n cap g Z base' :=
  ⟨h.len, fun hp => by obtain ⟨a, b, c, d⟩ := h.at0 hp; exact ⟨a, b, by omega, d⟩, h.nil, h.room⟩

theorem Copied.drew {w : World} {oa : Option Addr} {n cap g base : Nat} {Z : List Int} (h : Copied w oa n cap g Z base) : Copied w.drew oa n cap g Z base := ⟨h.len, h.at0, h.nil, h.room⟩

end Go.Proofs.Qxb6617690a
