/- The struct's 205 cells as a function; the counts. -/
import Derived.Test.Qxb6614855aDoorN2
import Derived.Test.Qxb6614855aDoorCount
namespace Go.Proofs.Qxb6614855aDoor
open Go.RowKit

/-- A part of a function's text, by its place: through a condition's first arm too. -/
def sub4 : List Nat → Code → Code
  | 0 :: p, .seq a _ => sub4 p a
  | 1 :: p, .seq _ b => sub4 p b
  | 2 :: p, .block _ c => sub4 p c
  | 3 :: p, .loop c => sub4 p c
  | 4 :: p, .cond _ t _ => sub4 p t
  | _, c => c

theorem Keep.drew {b : Nat} {w0 w : World} (h : Keep b w0 w) : Keep b w0 w.drew := ⟨h.os, h.tape, h.output, h.size, h.block⟩
theorem Keep.trans {b : Nat} {w0 w1 w2 : World} (h : Keep b w0 w1) (k : Keep b w1 w2) : Keep b w0 w2 :=
  ⟨k.os.trans h.os, k.tape.trans h.tape, k.output.trans h.output, Nat.le_trans h.size k.size, fun i hi hne => (k.block i (Nat.lt_of_lt_of_le hi h.size) hne).trans (h.block i hi hne)⟩

def lay (f : Nat → Value) : List Value := (List.range 205).map f
def upd (f : Nat → Value) (i : Nat) (x : Value) : Nat → Value := fun j => if j = i then x else f j

theorem lay_at (f : Nat → Value) {i : Nat} (h : i < 205) : (lay f)[i]? = some (f i) := by
  unfold lay
  rw [List.getElem?_map, List.getElem?_range h]
  rfl
theorem lay_len (f : Nat → Value) : (lay f).length = 205 := by simp [lay]
theorem lay_set (f : Nat → Value) {i : Nat} (h : i < 205) (x : Value) : (lay f).set i x = lay (upd f i x) := by
  apply List.ext_getElem?
  intro j
  by_cases hj : j < 205
  · rw [lay_at _ hj]
    by_cases e : i = j
    · subst e
      rw [List.getElem?_set_self (by rw [lay_len]; exact h)]
      simp [upd]
    · rw [List.getElem?_set_ne e, lay_at _ hj]
      have : ¬ j = i := fun x => e x.symm
      simp [upd, this]
  · rw [List.getElem?_eq_none (by rw [List.length_set, lay_len]; omega), List.getElem?_eq_none (by rw [lay_len]; omega)]

/-- The counts of the corners on each plane lie at 102 .. 197. -/
def onF (f : Nat → Value) (n : Nat → Nat) : Nat → Value := fun j => if 102 ≤ j ∧ j < 198 then .int .i16 (n (j - 102) : Nat) else f j
def bump (n : Nat → Nat) (t : Nat) : Nat → Nat := fun i => if i = t then n i + 1 else n i

theorem onF_at (f : Nat → Value) (n : Nat → Nat) (i : Nat) (h : i < 96) : onF f n (102 + i) = .int .i16 (n i : Nat) := by
  unfold onF
  rw [if_pos (by omega), Nat.add_sub_cancel_left]

theorem onF_upd (f : Nat → Value) (n : Nat → Nat) (t : Nat) (h : t < 96) : upd (onF f n) (102 + t) (.int .i16 (n t + 1 : Nat)) = onF f (bump n t) := by
  funext j
  unfold upd onF bump
  by_cases e : j = 102 + t
  · subst e
    rw [if_pos rfl, if_pos (by omega), Nat.add_sub_cancel_left, if_pos rfl]
  · rw [if_neg e]
    by_cases c : 102 ≤ j ∧ j < 198
    · rw [if_pos c, if_pos c, if_neg (by omega)]
    · rw [if_neg c, if_neg c]

def bit (y i : Nat) : Nat := if y.testBit i then 1 else 0

/-- The lowest bit goes. -/
theorem low_bit : ∀ y : Fin 256, y.val ≠ 0 → Lib.ctz 32 y.val < 8 ∧ y.val &&& (y.val - 1) < y.val ∧ ∀ i : Fin 8, bit y.val i.val = bit (y.val &&& (y.val - 1)) i.val + (if i.val = Lib.ctz 32 y.val then 1 else 0) := by decide +kernel

theorem bit_far (y i : Nat) (hy : y < 256) (hi : 8 ≤ i) : bit y i = 0 := by
  unfold bit
  have h : y < 2 ^ i := Nat.lt_of_lt_of_le hy (Nat.pow_le_pow_right (n := 2) (by decide) hi)
  rw [Nat.testBit_lt_two_pow h]
  rfl

theorem low_step (y : Nat) (h0 : y ≠ 0) (hy : y < 256) (n : Nat → Nat) : Lib.ctz 32 y < 8 ∧ y &&& (y - 1) < y ∧ ∀ i, bump n (Lib.ctz 32 y) i + bit (y &&& (y - 1)) i = n i + bit y i := by
  obtain ⟨h1, h2, h3⟩ := low_bit ⟨y, hy⟩ h0
  dsimp only at h1 h2 h3
  refine ⟨h1, h2, fun i => ?_⟩
  unfold bump
  by_cases c : i < 8
  · have := h3 ⟨i, c⟩
    dsimp only at this
    split at this
    · rename_i e
      rw [if_pos e]
      omega
    · rename_i e
      rw [if_neg e]
      omega
  · rw [bit_far y i hy (by omega), bit_far _ i (by omega) (by omega), if_neg (by omega)]

end Go.Proofs.Qxb6614855aDoor
