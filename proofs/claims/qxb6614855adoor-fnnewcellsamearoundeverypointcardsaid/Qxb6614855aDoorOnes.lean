/- math/bits.OnesCount32 at the words that come up. -/
import Derived.Test.Qxb6614855aDoorSmall
namespace Go.Proofs.Qxb6614855aDoor
open Go.RowKit

/-- The bounds that corner k lies on, by the first j dimensions. -/
def maskTo (k : Nat) : Nat → Nat
  | 0 => 0
  | j + 1 => maskTo k j ||| 2 ^ (2 * j + if k.testBit j then 1 else 0)
def mask (k : Nat) : Nat := maskTo k 4

theorem and0 : bits BinOp.and IntKind.u32 0 255 = 0 := by kernel_rfl

set_option maxRecDepth 100000 in
set_option maxHeartbeats 4000000 in
theorem ones_0 (w : World) : Calls Tryd.prog 37 #[.int .u32 0] w fun e w' => e = .returned (.int .i64 0) ∧ ∃ n, w' = w.drewN n := by
  have h0 := and0
  have h1 : bits BinOp.and IntKind.u32 0 255 = 0 := by kernel_rfl
  go_enter Tryd.func37, Tryd.ntmps37
  go_wp2_with fail
  go_quiet (fail)
  go_wp2
  go_ret
  exact ⟨rfl, _, rfl⟩

set_option maxRecDepth 100000 in
set_option maxHeartbeats 4000000 in
theorem ones_85 (w : World) : Calls Tryd.prog 37 #[.int .u32 85] w fun e w' => e = .returned (.int .i64 4) ∧ ∃ n, w' = w.drewN n := by
  have h0 := and0
  have h1 : bits BinOp.and IntKind.u32 85 255 = 85 := by kernel_rfl
  go_enter Tryd.func37, Tryd.ntmps37
  go_wp2_with fail
  go_quiet (fail)
  go_wp2
  go_ret
  exact ⟨rfl, _, rfl⟩

set_option maxRecDepth 100000 in
set_option maxHeartbeats 4000000 in
theorem ones_86 (w : World) : Calls Tryd.prog 37 #[.int .u32 86] w fun e w' => e = .returned (.int .i64 4) ∧ ∃ n, w' = w.drewN n := by
  have h0 := and0
  have h1 : bits BinOp.and IntKind.u32 86 255 = 86 := by kernel_rfl
  go_enter Tryd.func37, Tryd.ntmps37
  go_wp2_with fail
  go_quiet (fail)
  go_wp2
  go_ret
  exact ⟨rfl, _, rfl⟩

set_option maxRecDepth 100000 in
set_option maxHeartbeats 4000000 in
theorem ones_89 (w : World) : Calls Tryd.prog 37 #[.int .u32 89] w fun e w' => e = .returned (.int .i64 4) ∧ ∃ n, w' = w.drewN n := by
  have h0 := and0
  have h1 : bits BinOp.and IntKind.u32 89 255 = 89 := by kernel_rfl
  go_enter Tryd.func37, Tryd.ntmps37
  go_wp2_with fail
  go_quiet (fail)
  go_wp2
  go_ret
  exact ⟨rfl, _, rfl⟩

set_option maxRecDepth 100000 in
set_option maxHeartbeats 4000000 in
theorem ones_90 (w : World) : Calls Tryd.prog 37 #[.int .u32 90] w fun e w' => e = .returned (.int .i64 4) ∧ ∃ n, w' = w.drewN n := by
  have h0 := and0
  have h1 : bits BinOp.and IntKind.u32 90 255 = 90 := by kernel_rfl
  go_enter Tryd.func37, Tryd.ntmps37
  go_wp2_with fail
  go_quiet (fail)
  go_wp2
  go_ret
  exact ⟨rfl, _, rfl⟩

set_option maxRecDepth 100000 in
set_option maxHeartbeats 4000000 in
theorem ones_101 (w : World) : Calls Tryd.prog 37 #[.int .u32 101] w fun e w' => e = .returned (.int .i64 4) ∧ ∃ n, w' = w.drewN n := by
  have h0 := and0
  have h1 : bits BinOp.and IntKind.u32 101 255 = 101 := by kernel_rfl
  go_enter Tryd.func37, Tryd.ntmps37
  go_wp2_with fail
  go_quiet (fail)
  go_wp2
  go_ret
  exact ⟨rfl, _, rfl⟩

set_option maxRecDepth 100000 in
set_option maxHeartbeats 4000000 in
theorem ones_102 (w : World) : Calls Tryd.prog 37 #[.int .u32 102] w fun e w' => e = .returned (.int .i64 4) ∧ ∃ n, w' = w.drewN n := by
  have h0 := and0
  have h1 : bits BinOp.and IntKind.u32 102 255 = 102 := by kernel_rfl
  go_enter Tryd.func37, Tryd.ntmps37
  go_wp2_with fail
  go_quiet (fail)
  go_wp2
  go_ret
  exact ⟨rfl, _, rfl⟩

set_option maxRecDepth 100000 in
set_option maxHeartbeats 4000000 in
theorem ones_105 (w : World) : Calls Tryd.prog 37 #[.int .u32 105] w fun e w' => e = .returned (.int .i64 4) ∧ ∃ n, w' = w.drewN n := by
  have h0 := and0
  have h1 : bits BinOp.and IntKind.u32 105 255 = 105 := by kernel_rfl
  go_enter Tryd.func37, Tryd.ntmps37
  go_wp2_with fail
  go_quiet (fail)
  go_wp2
  go_ret
  exact ⟨rfl, _, rfl⟩

set_option maxRecDepth 100000 in
set_option maxHeartbeats 4000000 in
theorem ones_106 (w : World) : Calls Tryd.prog 37 #[.int .u32 106] w fun e w' => e = .returned (.int .i64 4) ∧ ∃ n, w' = w.drewN n := by
  have h0 := and0
  have h1 : bits BinOp.and IntKind.u32 106 255 = 106 := by kernel_rfl
  go_enter Tryd.func37, Tryd.ntmps37
  go_wp2_with fail
  go_quiet (fail)
  go_wp2
  go_ret
  exact ⟨rfl, _, rfl⟩

set_option maxRecDepth 100000 in
set_option maxHeartbeats 4000000 in
theorem ones_149 (w : World) : Calls Tryd.prog 37 #[.int .u32 149] w fun e w' => e = .returned (.int .i64 4) ∧ ∃ n, w' = w.drewN n := by
  have h0 := and0
  have h1 : bits BinOp.and IntKind.u32 149 255 = 149 := by kernel_rfl
  go_enter Tryd.func37, Tryd.ntmps37
  go_wp2_with fail
  go_quiet (fail)
  go_wp2
  go_ret
  exact ⟨rfl, _, rfl⟩

set_option maxRecDepth 100000 in
set_option maxHeartbeats 4000000 in
theorem ones_150 (w : World) : Calls Tryd.prog 37 #[.int .u32 150] w fun e w' => e = .returned (.int .i64 4) ∧ ∃ n, w' = w.drewN n := by
  have h0 := and0
  have h1 : bits BinOp.and IntKind.u32 150 255 = 150 := by kernel_rfl
  go_enter Tryd.func37, Tryd.ntmps37
  go_wp2_with fail
  go_quiet (fail)
  go_wp2
  go_ret
  exact ⟨rfl, _, rfl⟩

set_option maxRecDepth 100000 in
set_option maxHeartbeats 4000000 in
theorem ones_153 (w : World) : Calls Tryd.prog 37 #[.int .u32 153] w fun e w' => e = .returned (.int .i64 4) ∧ ∃ n, w' = w.drewN n := by
  have h0 := and0
  have h1 : bits BinOp.and IntKind.u32 153 255 = 153 := by kernel_rfl
  go_enter Tryd.func37, Tryd.ntmps37
  go_wp2_with fail
  go_quiet (fail)
  go_wp2
  go_ret
  exact ⟨rfl, _, rfl⟩

set_option maxRecDepth 100000 in
set_option maxHeartbeats 4000000 in
theorem ones_154 (w : World) : Calls Tryd.prog 37 #[.int .u32 154] w fun e w' => e = .returned (.int .i64 4) ∧ ∃ n, w' = w.drewN n := by
  have h0 := and0
  have h1 : bits BinOp.and IntKind.u32 154 255 = 154 := by kernel_rfl
  go_enter Tryd.func37, Tryd.ntmps37
  go_wp2_with fail
  go_quiet (fail)
  go_wp2
  go_ret
  exact ⟨rfl, _, rfl⟩

set_option maxRecDepth 100000 in
set_option maxHeartbeats 4000000 in
theorem ones_165 (w : World) : Calls Tryd.prog 37 #[.int .u32 165] w fun e w' => e = .returned (.int .i64 4) ∧ ∃ n, w' = w.drewN n := by
  have h0 := and0
  have h1 : bits BinOp.and IntKind.u32 165 255 = 165 := by kernel_rfl
  go_enter Tryd.func37, Tryd.ntmps37
  go_wp2_with fail
  go_quiet (fail)
  go_wp2
  go_ret
  exact ⟨rfl, _, rfl⟩

set_option maxRecDepth 100000 in
set_option maxHeartbeats 4000000 in
theorem ones_166 (w : World) : Calls Tryd.prog 37 #[.int .u32 166] w fun e w' => e = .returned (.int .i64 4) ∧ ∃ n, w' = w.drewN n := by
  have h0 := and0
  have h1 : bits BinOp.and IntKind.u32 166 255 = 166 := by kernel_rfl
  go_enter Tryd.func37, Tryd.ntmps37
  go_wp2_with fail
  go_quiet (fail)
  go_wp2
  go_ret
  exact ⟨rfl, _, rfl⟩

set_option maxRecDepth 100000 in
set_option maxHeartbeats 4000000 in
theorem ones_169 (w : World) : Calls Tryd.prog 37 #[.int .u32 169] w fun e w' => e = .returned (.int .i64 4) ∧ ∃ n, w' = w.drewN n := by
  have h0 := and0
  have h1 : bits BinOp.and IntKind.u32 169 255 = 169 := by kernel_rfl
  go_enter Tryd.func37, Tryd.ntmps37
  go_wp2_with fail
  go_quiet (fail)
  go_wp2
  go_ret
  exact ⟨rfl, _, rfl⟩

set_option maxRecDepth 100000 in
set_option maxHeartbeats 4000000 in
theorem ones_170 (w : World) : Calls Tryd.prog 37 #[.int .u32 170] w fun e w' => e = .returned (.int .i64 4) ∧ ∃ n, w' = w.drewN n := by
  have h0 := and0
  have h1 : bits BinOp.and IntKind.u32 170 255 = 170 := by kernel_rfl
  go_enter Tryd.func37, Tryd.ntmps37
  go_wp2_with fail
  go_quiet (fail)
  go_wp2
  go_ret
  exact ⟨rfl, _, rfl⟩

theorem ones_mask (w : World) : ∀ k : Nat, k < 16 → Calls Tryd.prog 37 #[.int .u32 (mask k : Nat)] w fun e w' => e = .returned (.int .i64 4) ∧ ∃ n, w' = w.drewN n
  | 0, _ => ones_85 w
  | 1, _ => ones_86 w
  | 2, _ => ones_89 w
  | 3, _ => ones_90 w
  | 4, _ => ones_101 w
  | 5, _ => ones_102 w
  | 6, _ => ones_105 w
  | 7, _ => ones_106 w
  | 8, _ => ones_149 w
  | 9, _ => ones_150 w
  | 10, _ => ones_153 w
  | 11, _ => ones_154 w
  | 12, _ => ones_165 w
  | 13, _ => ones_166 w
  | 14, _ => ones_169 w
  | 15, _ => ones_170 w
  | _ + 16, h => by omega

end Go.Proofs.Qxb6614855aDoor
