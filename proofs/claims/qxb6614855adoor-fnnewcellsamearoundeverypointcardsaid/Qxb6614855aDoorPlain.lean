/- What a corner is; what the cell is: plain lists of values. -/
import Derived.Test.Qxb6614855aDoorOnes
namespace Go.Proofs.Qxb6614855aDoor
open Go.RowKit

/-- The side of corner k along dimension j. -/
def sideOf (k j : Nat) : Nat := if k.testBit j then 1 else 0

/-- Corner k, its first j dimensions laid. -/
def vpart (k j : Nat) : List Value :=
  [if 0 < j then .float .f64 (fb (k.testBit 0)) else .float .f64 0, if 1 < j then .float .f64 (fb (k.testBit 1)) else .float .f64 0,
   if 2 < j then .float .f64 (fb (k.testBit 2)) else .float .f64 0, if 3 < j then .float .f64 (fb (k.testBit 3)) else .float .f64 0,
   .int .u32 (maskTo k j : Nat), .int .u32 0, .int .u32 0, .int .u8 0,
   if 0 < j then .int .i16 (k ^^^ 1 : Nat) else .int .i16 0, if 1 < j then .int .i16 (k ^^^ 2 : Nat) else .int .i16 0,
   if 2 < j then .int .i16 (k ^^^ 4 : Nat) else .int .i16 0, if 3 < j then .int .i16 (k ^^^ 8 : Nat) else .int .i16 0]

theorem vpart_step (k : Nat) : ∀ j, j < 4 → ((((((vpart k j).set j (.float .f64 (fb (k.testBit j)))).set 4 (.int .u32 (maskTo k j ||| 2 ^ (2 * j + sideOf k j) : Nat))).set 5 (.int .u32 0)).set 6 (.int .u32 0)).set (8 + j) (.int .i16 (k ^^^ 2 ^ j : Nat))) = vpart k (j + 1)
  | 0, _ => rfl
  | 1, _ => rfl
  | 2, _ => rfl
  | 3, _ => rfl
  | _ + 4, h => by omega

theorem maskTo_lt (k : Nat) : ∀ j, j ≤ 4 → maskTo k j < 256
  | 0, _ => by simp [maskTo]
  | j + 1, h => by
    have := maskTo_lt k j (by omega)
    unfold maskTo
    refine Nat.or_lt_two_pow (n := 8) this ?_
    refine Nat.pow_lt_pow_right (by decide) ?_
    split <;> omega

/-- The corner, whole: its point, its bounds, its orthant, its neighbours. -/
def vtx (k : Nat) : List Value :=
  [.float .f64 (fb (k.testBit 0)), .float .f64 (fb (k.testBit 1)), .float .f64 (fb (k.testBit 2)), .float .f64 (fb (k.testBit 3)),
   .int .u32 (mask k : Nat), .int .u32 0, .int .u32 0, .int .u8 (k : Nat),
   .int .i16 (k ^^^ 1 : Nat), .int .i16 (k ^^^ 2 : Nat), .int .i16 (k ^^^ 4 : Nat), .int .i16 (k ^^^ 8 : Nat)]

theorem vpart_all (k : Nat) : (vpart k 4).set 7 (.int .u8 (k : Nat)) = vtx k := rfl
theorem orth_self : ∀ k : Fin 16, orth (fun j => k.val.testBit j) 4 = k.val := by decide +kernel

/-- The first n corners. -/
def verts : Nat → List Value
  | 0 => []
  | n + 1 => verts n ++ vtx n
theorem verts_len : ∀ n, (verts n).length = n * 12
  | 0 => rfl
  | n + 1 => by rw [verts, List.length_append, verts_len n]; simp [vtx]; omega

/- Float facts. -/
theorem fm0 : floatBits .mul .f64 4746794007248502784 (floatOfInt .f64 1) = some (fb false) := by kernel_rfl
theorem fm1 : floatBits .mul .f64 4746794007248502784 (floatOfInt .f64 (-1)) = some (fb true) := by kernel_rfl

theorem and_one : ∀ k : Fin 16, ∀ j : Fin 4, bits BinOp.and IntKind.i64 ((k.val : Int) / 2 ^ j.val) 1 = ((sideOf k.val j.val : Nat) : Int) := by decide +kernel
theorem xor_i64 : ∀ k : Fin 16, ∀ j : Fin 4, IntKind.i16.wrap (bits BinOp.xor IntKind.i64 (k.val : Int) (wrap64 (2 ^ j.val))) = ((k.val ^^^ 2 ^ j.val : Nat) : Int) := by decide +kernel
theorem xor_lt : ∀ k : Fin 16, ∀ j : Fin 4, k.val ^^^ 2 ^ j.val < 16 := by decide +kernel

end Go.Proofs.Qxb6614855aDoor
