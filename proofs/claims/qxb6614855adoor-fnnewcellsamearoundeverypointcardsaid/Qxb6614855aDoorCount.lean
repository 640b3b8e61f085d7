/- 'planeSet.count' at a corner's bounds. -/
import Derived.Test.Qxb6614855aDoorOnes
namespace Go.Proofs.Qxb6614855aDoor
open Go.RowKit

set_option maxRecDepth 100000 in
set_option maxHeartbeats 2000000 in
theorem count_mask (k : Nat) (hk : k < 16) (w : World) : Calls Tryd.prog 31 #[.agg #[.int .u32 (mask k : Nat), .int .u32 0, .int .u32 0]] w fun e w' => e = .returned (.int .i64 4) ∧ Below w.heap.size w w' := by
  have hb : Below w.heap.size w (w.alloc (.cells #[.int .u32 (mask k : Nat), .int .u32 0, .int .u32 0] 56)) := (Below.refl _ _).alloc (Nat.le_refl _) _
  have Hb := hide hb
  have hi0 : ∀ W, (Instr.index 56 (.agg #[.int .u32 (mask k : Nat), .int .u32 0, .int .u32 0]) (.int .i64 0)).run Tryd.prog W = .ok (.int .u32 (mask k : Nat)) W := fun W => by rfl
  have hi1 : ∀ W, (Instr.index 56 (.agg #[.int .u32 (mask k : Nat), .int .u32 0, .int .u32 0]) (.int .i64 1)).run Tryd.prog W = .ok (.int .u32 0) W := fun W => by rfl
  have hi2 : ∀ W, (Instr.index 56 (.agg #[.int .u32 (mask k : Nat), .int .u32 0, .int .u32 0]) (.int .i64 2)).run Tryd.prog W = .ok (.int .u32 0) W := fun W => by rfl
  have Hm := hide (fun W => ones_mask W k hk)
  clear hb
  go_enter Tryd.func31, Tryd.ntmps31
  go_wp2
  refine wp_loop_rounds 4 ?_
  rw [rounds_succ]
  go_wp2_with fail
  refine (unhide Hm _).mono ?_
  rintro e w1 ⟨rfl, n1, hw1⟩
  have H1 := hide hw1
  clear hw1
  go_wp2_with fail
  rw [rounds_succ]
  go_wp2_with fail
  refine (ones_0 _).mono ?_
  rintro e w2 ⟨rfl, n2, hw2⟩
  have H2 := hide hw2
  clear hw2
  go_wp2_with fail
  rw [rounds_succ]
  go_wp2_with fail
  refine (ones_0 _).mono ?_
  rintro e w3 ⟨rfl, n3, hw3⟩
  have H3 := hide hw3
  clear hw3
  go_wp2_with fail
  rw [rounds_succ]
  go_wp2
  go_ret
  rw [unhide H3, unhide H2, unhide H1]
  exact ⟨rfl, below_drewN (below_drewN (below_drewN (unhide Hb) _) _) _⟩

end Go.Proofs.Qxb6614855aDoor
