/- math/bits.TrailingZeros64 in this program: the library's own text walked; the arithmetic is the kit's. -/
import Derived.Test.Qxb6616078aDoorRows
import Derived.WalkKit
import Derived.WalkSpells
import Derived.Lib.TrailingZeros
import Derived.Laws.Bits64b
import Derived.Shelf.Spec.TrailingZeros
import Derived.Test.Qxb6616078aDoorPlain
namespace Go.Proofs.Qxb6616078aDoor
open Go.RowKit

set_option maxHeartbeats 1000000 in
theorem tz_core (x k idx : Nat) (w : World) (hx0 : ((x : Int) == 0) = false)
    (key : IntKind.u64.wrap (bits BinOp.and IntKind.u64 (x : Int) (IntKind.u64.wrap (-(x : Int))) * 285870213051353865) / 288230376151711744 = (idx : Int))
    (hi : idx < 64) (hk : k < 64) (hcell : w.cell? ⟨0, idx, none⟩ = some (.int .u8 k)) :
    Calls Tryd.prog 11 #[.int .u64 x] w fun e w' => e = .returned (.int .i64 k) ∧ w' = w := by
  go_enter Tryd.func11, Tryd.ntmps11
  go_wp2_with (simp only [key])
  go_ret
  exact ⟨rfl, rfl⟩

theorem tz_any (x : Nat) (w : World) (hx : x < 18446744073709551616) (hx0 : x ≠ 0) (hT : TabAt 0 Lib.deBruijn64tab w) :
    Calls Tryd.prog 11 #[.int .u64 x] w fun e w' => e = .returned (.int .i64 (Lib.ctz 64 x)) ∧ w' = w := by
  obtain ⟨hlow, hk⟩ := Lib.lowest_bit 64 x hx0 hx
  obtain ⟨hi, htab⟩ := Lib.deBruijn64_at _ hk
  have hcell := hT _ hi
  rw [htab] at hcell
  exact tz_core x _ _ w (by simp; omega) (tz64_key x _ hx hx0 hlow) hi hk hcell
end Go.Proofs.Qxb6616078aDoor
