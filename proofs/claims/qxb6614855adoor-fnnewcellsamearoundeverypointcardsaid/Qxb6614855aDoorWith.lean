/- 'planeSet.with'. -/
import Derived.Test.Qxb6614855aDoorSmall
namespace Go.Proofs.Qxb6614855aDoor
open Go.RowKit

theorem or_u32 : ∀ m : Fin 256, ∀ i : Fin 8, bits BinOp.or IntKind.u32 (m.val : Int) ((2 : Int) ^ i.val % 4294967296) = ((m.val ||| 2 ^ i.val : Nat) : Int) := by decide +kernel

set_option maxHeartbeats 2000000 in
theorem with_any (m i : Nat) (hm : m < 256) (hi : i < 8) (w : World) : Calls Tryd.prog 27 #[.agg #[.int .u32 m, .int .u32 0, .int .u32 0], .int .i64 i] w fun e w' =>
    e = .returned (.agg #[.int .u32 (m ||| 2 ^ i : Nat), .int .u32 0, .int .u32 0]) ∧ Below w.heap.size w w' := by
  have hor := or_u32 ⟨m, hm⟩ ⟨i, hi⟩
  dsimp only at hor
  have hor2 : bits BinOp.or IntKind.u32 (m : Int) (IntKind.u32.wrap (2 ^ i)) = ((m ||| 2 ^ i : Nat) : Int) := by rw [← hor, wrap_u32']
  have e1 : (i : Int).tdiv 32 = 0 := by rw [Int.tdiv_eq_ediv_of_nonneg (by omega)]; omega
  have e2 : (i : Int).tmod 32 = i := by rw [Int.tmod_eq_emod_of_nonneg (by omega)]; omega
  have e3 : (i : Int) / 32 = 0 := by omega
  have e4 : (i : Int) % 32 = i := by omega
  have e5 : (0 : Int) ≤ i := by omega
  go_enter Tryd.func27, Tryd.ntmps27
  go_wp2
  go_region
  all_goals go_wp2
  refine bodyPost_ret (results_cell_row rfl _ _ (w.heap.size + 1) 56 #[.int .u32 (m ||| 2 ^ i : Nat), .int .u32 0, .int .u32 0] (0, 0) _ rfl (by show (World.alloc _ _).heap[w.heap.size + 1]? = _; exact heap_alloc2_new w _ _) Tryd.underlying56 rfl (by kernel_rfl)) rfl ?_
  exact ⟨rfl, (((Below.refl _ _).alloc (Nat.le_refl _) _).alloc (by simp) _).drew⟩

end Go.Proofs.Qxb6614855aDoor
