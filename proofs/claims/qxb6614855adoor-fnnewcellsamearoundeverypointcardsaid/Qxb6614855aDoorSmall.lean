/- The small callees. -/
import Derived.Test.Qxb6614855aDoorMem
namespace Go.Proofs.Qxb6614855aDoor
open Go.RowKit

/-- A corner's point, by its signs. -/
def pt (s : Nat → Bool) : Array Value := #[.float .f64 (fb (s 0)), .float .f64 (fb (s 1)), .float .f64 (fb (s 2)), .float .f64 (fb (s 3))]

theorem pt_cell (s : Nat → Bool) (w : World) (b t : Nat) (fr : Nat × Nat) (h : w.heap[b]? = some (.cells (pt s) t fr)) (j : Nat) (hj : j < 4) : w.cell? ⟨b, j, none⟩ = some (.float .f64 (fb (s j))) := by
  rw [cell_of_row w b j (pt s) t fr h]
  match j, hj with
  | 0, _ => rfl
  | 1, _ => rfl
  | 2, _ => rfl
  | 3, _ => rfl

theorem below_drewN {B : Nat} {a w : World} (h : Below B a w) (n : Nat) : Below B a (w.drewN n) := ⟨h.os, h.tape, h.output, h.size, h.block⟩

set_option maxHeartbeats 1000000 in
theorem dot_any (s : Nat → Bool) (w : World) : Calls Tryd.prog 34 #[.agg (pt s), .agg (pt s)] w fun e w' => e = .returned (.float .f64 (acc 4)) ∧ Below w.heap.size w w' := by
  have hr0 : ((w.alloc (.cells (pt s) 28)).alloc (.cells (pt s) 28)).heap[w.heap.size]? = some (.cells (pt s) 28 (0, 0)) := by
    rw [Below.heap_alloc _ _ _ (by simp)]
    exact heap_alloc_last w _
  have hr1 : ((w.alloc (.cells (pt s) 28)).alloc (.cells (pt s) 28)).heap[w.heap.size + 1]? = some (.cells (pt s) 28 (0, 0)) := by
    have := heap_alloc_last (w.alloc (.cells (pt s) 28)) (.cells (pt s) 28)
    simpa using this
  have hb : Below w.heap.size w ((w.alloc (.cells (pt s) 28)).alloc (.cells (pt s) 28)) := ((Below.refl _ _).alloc (Nat.le_refl _) _).alloc (by simp) _
  obtain ⟨W0, hW0⟩ : ∃ W0, W0 = (w.alloc (.cells (pt s) 28)).alloc (.cells (pt s) 28) := ⟨_, rfl⟩
  have H0 := hide (And.intro hr0 (And.intro hr1 hb))
  clear hr0 hr1 hb
  go_enter Tryd.func34, Tryd.ntmps34
  go_wp2
  rw [← hW0] at H0 ⊢
  clear hW0
  go_loopg [5, 7] 4 (fun g s5 s7 wr => ∃ k m : Nat, s5 = .float .f64 (acc k) ∧ s7 = .int .i64 k ∧ g + k = 4 ∧ wr = W0.drewN m)
  case atStart => exact ⟨0, 0, rfl, rfl, rfl, rfl⟩
  case round =>
    obtain ⟨k, m, rfl, rfl, hg, rfl⟩ := hrel
    by_cases c : k < 4
    · have hx := pt_cell s W0 _ _ _ (unhide H0).1 k c
      have hy := pt_cell s W0 _ _ _ (unhide H0).2.1 k c
      have hmul := fun W => run_float_arith (P := Tryd.prog) W .mul 27 .f64 _ _ _ (sq_bits (s k))
      have hadd := fun W => run_float_arith (P := Tryd.prog) W .add 27 .f64 _ _ _ (acc_bits k c)
      obtain ⟨x, ex⟩ : ∃ x, x = fb (s k) := ⟨_, rfl⟩
      obtain ⟨y, ey⟩ : ∃ y, y = acc k := ⟨_, rfl⟩
      obtain ⟨z, ez⟩ : ∃ z, z = acc (k + 1) := ⟨_, rfl⟩
      rw [← ex] at hx hy hmul
      rw [← ey, ← ez] at hadd
      rw [← ey]
      have Hg := hide hg
      have Ez := hide ez
      clear ex ey ez hg
      have c' : (k : Int) < 4 := by omega
      go_wp2_with fail
      go_quiet (fail)
      go_wp2
      go_roundg (gk - 1)
      case measure => have := unhide Hg; omega
      case rel => exact ⟨k + 1, m + nq, by rw [unhide Ez], by go_num, by have := unhide Hg; omega, by first | rfl | simp [World.drewN, Nat.add_assoc]⟩
    · obtain rfl : k = 4 := by omega
      go_wp2
      go_ret
      exact ⟨rfl, below_drewN (unhide H0).2.2 _⟩

theorem andnot_bits (s : Bool) : bits BinOp.andNot IntKind.u64 (fb s : Nat) 9223372036854775808 = ((fb false : Nat) : Int) := by cases s <;> kernel_rfl

theorem abs_any (s : Bool) (w : World) : Calls Tryd.prog 35 #[.float .f64 (fb s)] w fun e w' => e = .returned (.float .f64 (fb false)) ∧ w' = w := by
  have h40 : ∀ W, (callFunc 40 #[.float .f64 (fb s)]).run Tryd.prog W = .ok (.value (.int .u64 (fb s : Nat))) W := fun W => by rfl
  have h39 : ∀ W, (callFunc 39 #[.int .u64 (fb false : Nat)]).run Tryd.prog W = .ok (.value (.float .f64 (fb false))) W := fun W => by rfl
  have hb := andnot_bits s
  go_enter Tryd.func35, Tryd.ntmps35
  go_wp2
  go_ret
  exact ⟨rfl, rfl⟩

/-- The orthant by the first j signs. -/
def orth (s : Nat → Bool) : Nat → Nat
  | 0 => 0
  | j + 1 => if s j then orth s j ||| 2 ^ j else orth s j

theorem orth_lt (s : Nat → Bool) : ∀ j, orth s j < 2 ^ j
  | 0 => by simp [orth]
  | j + 1 => by
    have := orth_lt s j
    have h2 : 2 ^ j < 2 ^ (j + 1) := Nat.pow_lt_pow_right (by decide) (by omega)
    unfold orth
    split
    · exact Nat.or_lt_two_pow (by omega) h2
    · omega

theorem or_u8 : ∀ a : Fin 16, ∀ j : Fin 4, bits BinOp.or IntKind.u8 (a.val : Int) ((2 : Int) ^ j.val % 256) = ((a.val ||| 2 ^ j.val : Nat) : Int) := by decide +kernel

set_option maxHeartbeats 1000000 in
theorem orth_any (s : Nat → Bool) (w : World) : Calls Tryd.prog 28 #[.agg (pt s)] w fun e w' => e = .returned (.int .u8 (orth s 4 : Nat)) ∧ Below w.heap.size w w' := by
  have hr0 : (w.alloc (.cells (pt s) 28)).heap[w.heap.size]? = some (.cells (pt s) 28 (0, 0)) := heap_alloc_last w _
  have hb : Below w.heap.size w (w.alloc (.cells (pt s) 28)) := (Below.refl _ _).alloc (Nat.le_refl _) _
  obtain ⟨W0, hW0⟩ : ∃ W0, W0 = w.alloc (.cells (pt s) 28) := ⟨_, rfl⟩
  have H0 := hide (And.intro hr0 hb)
  clear hr0 hb
  go_enter Tryd.func28, Tryd.ntmps28
  go_wp2
  rw [← hW0] at H0 ⊢
  clear hW0
  go_loopg [3, 5] 4 (fun g s3 s5 wr => ∃ k : Nat, s3 = .int .u8 (orth s k : Nat) ∧ s5 = .int .i64 k ∧ g + k = 4 ∧ wr = W0)
  case atStart => exact ⟨0, rfl, rfl, rfl, rfl⟩
  case round =>
    obtain ⟨k, rfl, rfl, hg, rfl⟩ := hrel
    by_cases c : k < 4
    · have hx := pt_cell s wr _ _ _ (unhide H0).1 k c
      have hneg := neg_of (s k)
      have hlt := orth_lt s k
      have ho : orth s (k + 1) = if s k then orth s k ||| 2 ^ k else orth s k := rfl
      obtain ⟨b, eb⟩ : ∃ b, b = s k := ⟨_, rfl⟩
      rw [← eb] at hx hneg ho
      obtain ⟨x, ex⟩ : ∃ x, x = fb b := ⟨_, rfl⟩
      rw [← ex] at hx hneg
      have hlt : orth s k < 16 := Nat.lt_of_lt_of_le hlt (Nat.pow_le_pow_right (n := 2) (by decide) (show k ≤ 4 by omega))
      have hor := or_u8 ⟨orth s k, hlt⟩ ⟨k, c⟩
      dsimp only at hor
      obtain ⟨a, ea⟩ : ∃ a, a = orth s k := ⟨_, rfl⟩
      rw [← ea] at hor ho hlt ⊢
      have c' : (k : Int) < 4 := by omega
      have Hg := hide hg
      have Ho := hide ho
      clear eb ex ea hg ho
      cases b with
      | true =>
        go_wp2
        go_roundg (gk - 1)
        case measure => have := unhide Hg; omega
        case rel => exact ⟨k + 1, by rw [unhide Ho]; simp, by go_num, by have := unhide Hg; omega, rfl⟩
      | false =>
        go_wp2
        go_roundg (gk - 1)
        case measure => have := unhide Hg; omega
        case rel => exact ⟨k + 1, by rw [unhide Ho]; simp, by go_num, by have := unhide Hg; omega, rfl⟩
    · obtain rfl : k = 4 := by omega
      go_wp2
      go_ret
      exact ⟨rfl, (unhide H0).2⟩

/-- math/bits.TrailingZeros32. -/
theorem tz_core (x k idx : Nat) (w : World) (hx0 : ((x : Int) == 0) = false)
    (key : bits BinOp.and IntKind.u32 (x : Int) (-(x : Int) % 4294967296) * 125613361 % 4294967296 / 134217728 = (idx : Int))
    (hi : idx < 32) (hk : k < 32) (hcell : w.cell? ⟨0, idx, none⟩ = some (.int .u8 k)) :
    Calls Tryd.prog 30 #[.int .u32 x] w fun e w' => e = .returned (.int .i64 k) ∧ w' = w := by
  go_enter Tryd.func30, Tryd.ntmps30
  go_wp2_with (simp only [key])
  go_ret
  exact ⟨rfl, rfl⟩

theorem tz_any (x : Nat) (w : World) (hx : x < 4294967296) (hx0 : x ≠ 0) (hT : TabAt 0 Lib.deBruijn32tab w) :
    Calls Tryd.prog 30 #[.int .u32 x] w fun e w' => e = .returned (.int .i64 (Lib.ctz 32 x)) ∧ w' = w := by
  obtain ⟨hlow, hk⟩ := Lib.lowest_bit 32 x hx0 hx
  obtain ⟨hi, htab⟩ := Lib.deBruijn32_at _ hk
  have hcell := hT _ hi
  rw [htab] at hcell
  exact tz_core x _ _ w (by simp; omega) (tz32_key x _ hx hx0 hlow) hi hk hcell

end Go.Proofs.Qxb6614855aDoor
