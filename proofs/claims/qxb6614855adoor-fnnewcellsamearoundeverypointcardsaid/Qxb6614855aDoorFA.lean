/- What the new cell answers; rows that equal themselves. -/
import Derived.Test.Qxb6614855aDoorHL
namespace Go.Proofs.Qxb6614855aDoor
open Go.RowKit

theorem new_own (x : Nat → Int) (bp bv cap : Nat) : part (newF x bp bv cap) 0 4 = (ownA x).toList := by kernel_rfl
theorem new_census (x : Nat → Int) (bp bv cap : Nat) : part (newF x bp bv cap) 6 16 = List.replicate 16 (.int .i32 1) := by kernel_rfl
theorem new_extents (x : Nat → Int) (bp bv cap : Nat) : part (newF x bp bv cap) 22 64 = List.replicate 64 (.float .f64 4746794007248502784) := by kernel_rfl
theorem new_radii (x : Nat → Int) (bp bv cap : Nat) : part (newF x bp bv cap) 86 16 = List.replicate 16 (.float .f64 4895412794951729152) := by kernel_rfl
def onL : List Value := List.replicate 8 (.int .i16 8) ++ List.replicate 88 (.int .i16 0)
theorem new_on (x : Nat → Int) (bp bv cap : Nat) : part (newF x bp bv cap) 102 96 = onL := by kernel_rfl
theorem new_4 (x : Nat → Int) (bp bv cap : Nat) : newF x bp bv cap 4 = .slice (some ⟨bp, 0, none⟩) 8 16 := by rfl
theorem new_5 (x : Nat → Int) (bp bv cap : Nat) : newF x bp bv cap 5 = .slice (some ⟨bv, 0, none⟩) 16 cap := by rfl
theorem new_198 (x : Nat → Int) (bp bv cap : Nat) : newF x bp bv cap 198 = .float .f64 4895412794951729152 := by rfl
theorem new_199 (x : Nat → Int) (bp bv cap : Nat) : newF x bp bv cap 199 = .slice none 0 0 := by rfl
theorem new_200 (x : Nat → Int) (bp bv cap : Nat) : newF x bp bv cap 200 = .bool true := by rfl
theorem new_201 (x : Nat → Int) (bp bv cap : Nat) : newF x bp bv cap 201 = .bool false := by rfl
theorem new_202 (x : Nat → Int) (bp bv cap : Nat) : newF x bp bv cap 202 = .bool false := by rfl
theorem new_203 (x : Nat → Int) (bp bv cap : Nat) : newF x bp bv cap 203 = .slice none 0 0 := by rfl
theorem new_204 (x : Nat → Int) (bp bv cap : Nat) : newF x bp bv cap 204 = .map none := by rfl

theorem eqItems_refl {P : Program} (w : World) (d : Nat) (e : TypeId) (c : Nat) (xs : Array Value) : ∀ is : List Nat, (∀ i ∈ is, ∃ v, (Go.part e xs (i * c)).run P w = .ok v w ∧ (Op.equalIn d e v v).run P w = .ok true w) → (Op.eqItems d e c xs xs is).run P w = .ok true w
  | [], _ => by simp [Op.eqItems]
  | i :: is, h => by
    obtain ⟨v, h1, h2⟩ := h i (by simp)
    have ih := eqItems_refl w d e c xs is (fun j hj => h j (by simp [hj]))
    simp only [Op.eqItems, Sem.run_bind, h1, h2, Result.andThen_ok, Bool.not_true, Bool.false_eq_true, if_false]
    exact ih

theorem part23 (x : Nat → Int) (w : World) : ∀ i : Nat, i < 4 → (Go.part 22 (ownA x) (i * 1)).run Tryd.prog w = .ok (.int .u32 (x i)) w
  | 0, _ => by kernel_rfl
  | 1, _ => by kernel_rfl
  | 2, _ => by kernel_rfl
  | 3, _ => by kernel_rfl
  | _ + 4, h => by omega
theorem eq23 (x : Nat → Int) (w : World) : (Op.equalIn 10000 23 (.agg (ownA x)) (.agg (ownA x))).run Tryd.prog w = .ok true w := by
  cases hi : Tryd.prog.info? 22 with
  | none => exact absurd hi (by have h : (Tryd.prog.info? 22).isSome = true := by kernel_rfl
                                intro h2; rw [h2] at h; cases h)
  | some i =>
    rw [run_equalIn_array w 9999 (ownA x) (ownA x) Tryd.underlying23 hi]
    have hc : Tryd.prog.cellsOf 22 = 1 := by kernel_rfl
    rw [hc]
    refine eqItems_refl w 9999 22 1 (ownA x) _ (fun i hi => ?_)
    have hl : i < 4 := List.mem_range.1 hi
    refine ⟨.int .u32 (x i), ?_, ?_⟩
    · exact part23 x w i hl
    · rw [run_equalIn_int w 9998 22 .u32 .u32 _ _ Tryd.underlying22]
      simp
theorem neq23 (x : Nat → Int) (w : World) : (binOp .neq 23 (.agg (ownA x)) (.agg (ownA x))).run Tryd.prog w = .ok (.bool false) w := by
  rw [run_neq_struct, eq23]
  rfl
theorem neq26 (w : World) : (binOp .neq 26 (.agg (List.replicate 16 (.int .i32 1)).toArray) (.agg (List.replicate 16 (.int .i32 1)).toArray)).run Tryd.prog w = .ok (.bool false) w := by kernel_rfl
theorem neq29 (w : World) : (binOp .neq 29 (.agg (List.replicate 64 (.float .f64 4746794007248502784)).toArray) (.agg (List.replicate 64 (.float .f64 4746794007248502784)).toArray)).run Tryd.prog w = .ok (.bool false) w := by kernel_rfl
theorem neq30 (w : World) : (binOp .neq 30 (.agg (List.replicate 16 (.float .f64 4895412794951729152)).toArray) (.agg (List.replicate 16 (.float .f64 4895412794951729152)).toArray)).run Tryd.prog w = .ok (.bool false) w := by kernel_rfl
theorem neq32 (w : World) : (binOp .neq 32 (.agg onL.toArray) (.agg onL.toArray)).run Tryd.prog w = .ok (.bool false) w := by kernel_rfl
theorem neq28 (w : World) : ∀ k : Nat, k < 16 → (binOp .neq 28 (.agg (vsub k 0 4).toArray) (.agg (vsub k 0 4).toArray)).run Tryd.prog w = .ok (.bool false) w
  | 0, _ => by kernel_rfl
  | 1, _ => by kernel_rfl
  | 2, _ => by kernel_rfl
  | 3, _ => by kernel_rfl
  | 4, _ => by kernel_rfl
  | 5, _ => by kernel_rfl
  | 6, _ => by kernel_rfl
  | 7, _ => by kernel_rfl
  | 8, _ => by kernel_rfl
  | 9, _ => by kernel_rfl
  | 10, _ => by kernel_rfl
  | 11, _ => by kernel_rfl
  | 12, _ => by kernel_rfl
  | 13, _ => by kernel_rfl
  | 14, _ => by kernel_rfl
  | 15, _ => by kernel_rfl
  | _ + 16, h => by omega
theorem neq42 (w : World) : ∀ k : Nat, k < 16 → (binOp .neq 42 (.agg (vsub k 4 3).toArray) (.agg (vsub k 4 3).toArray)).run Tryd.prog w = .ok (.bool false) w
  | 0, _ => by kernel_rfl
  | 1, _ => by kernel_rfl
  | 2, _ => by kernel_rfl
  | 3, _ => by kernel_rfl
  | 4, _ => by kernel_rfl
  | 5, _ => by kernel_rfl
  | 6, _ => by kernel_rfl
  | 7, _ => by kernel_rfl
  | 8, _ => by kernel_rfl
  | 9, _ => by kernel_rfl
  | 10, _ => by kernel_rfl
  | 11, _ => by kernel_rfl
  | 12, _ => by kernel_rfl
  | 13, _ => by kernel_rfl
  | 14, _ => by kernel_rfl
  | 15, _ => by kernel_rfl
  | _ + 16, h => by omega
theorem neq45 (w : World) : ∀ k : Nat, k < 16 → (binOp .neq 45 (.agg (vsub k 8 4).toArray) (.agg (vsub k 8 4).toArray)).run Tryd.prog w = .ok (.bool false) w
  | 0, _ => by kernel_rfl
  | 1, _ => by kernel_rfl
  | 2, _ => by kernel_rfl
  | 3, _ => by kernel_rfl
  | 4, _ => by kernel_rfl
  | 5, _ => by kernel_rfl
  | 6, _ => by kernel_rfl
  | 7, _ => by kernel_rfl
  | 8, _ => by kernel_rfl
  | 9, _ => by kernel_rfl
  | 10, _ => by kernel_rfl
  | 11, _ => by kernel_rfl
  | 12, _ => by kernel_rfl
  | 13, _ => by kernel_rfl
  | 14, _ => by kernel_rfl
  | 15, _ => by kernel_rfl
  | _ + 16, h => by omega
theorem guard23 (x y : Operand) (xs ys : Array Value) (w : World) : (eqGuard .neq 23 x y (.agg xs) (.agg ys)).run Tryd.prog w = .ok () w := run_eqGuard_agg w .neq 23 x y xs ys (by kernel_rfl)
theorem guard26 (x y : Operand) (xs ys : Array Value) (w : World) : (eqGuard .neq 26 x y (.agg xs) (.agg ys)).run Tryd.prog w = .ok () w := run_eqGuard_agg w .neq 26 x y xs ys (by kernel_rfl)
theorem guard28 (x y : Operand) (xs ys : Array Value) (w : World) : (eqGuard .neq 28 x y (.agg xs) (.agg ys)).run Tryd.prog w = .ok () w := run_eqGuard_agg w .neq 28 x y xs ys (by kernel_rfl)
theorem guard29 (x y : Operand) (xs ys : Array Value) (w : World) : (eqGuard .neq 29 x y (.agg xs) (.agg ys)).run Tryd.prog w = .ok () w := run_eqGuard_agg w .neq 29 x y xs ys (by kernel_rfl)
theorem guard30 (x y : Operand) (xs ys : Array Value) (w : World) : (eqGuard .neq 30 x y (.agg xs) (.agg ys)).run Tryd.prog w = .ok () w := run_eqGuard_agg w .neq 30 x y xs ys (by kernel_rfl)
theorem guard32 (x y : Operand) (xs ys : Array Value) (w : World) : (eqGuard .neq 32 x y (.agg xs) (.agg ys)).run Tryd.prog w = .ok () w := run_eqGuard_agg w .neq 32 x y xs ys (by kernel_rfl)
theorem guard42 (x y : Operand) (xs ys : Array Value) (w : World) : (eqGuard .neq 42 x y (.agg xs) (.agg ys)).run Tryd.prog w = .ok () w := run_eqGuard_agg w .neq 42 x y xs ys (by kernel_rfl)
theorem guard45 (x y : Operand) (xs ys : Array Value) (w : World) : (eqGuard .neq 45 x y (.agg xs) (.agg ys)).run Tryd.prog w = .ok () w := run_eqGuard_agg w .neq 45 x y xs ys (by kernel_rfl)

end Go.Proofs.Qxb6614855aDoor
