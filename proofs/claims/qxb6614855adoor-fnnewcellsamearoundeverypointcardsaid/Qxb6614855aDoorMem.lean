/- The memory side; the floats that the cube's corners have. -/
import Derived.Test.Qxb6614855aDoorRows
import Derived.WalkKit
import Derived.WalkSpells
import Derived.WalkLawsBesides
import Derived.Deep.QuietTactic
import Derived.BigQuiet
import Derived.Deep.LoopGhost
import Derived.Deep.MidRow
import Derived.Deep.WholeRow
import Derived.Deep.RegionHeld3
import Derived.Deep.CutBlock
import Derived.Laws.CopyOwn
import Derived.Laws.MakeOwn
import Derived.Laws.FloatArith
import Derived.Lib.TrailingZeros
import Derived.Laws.Bits64b
import Derived.Shelf.Spec.TrailingZeros
import Derived.LoopN
namespace Go.Proofs.Qxb6614855aDoor
open Go.RowKit

theorem hide {p : Prop} (h : p) : Hid p := h
theorem unhide {p : Prop} (h : Hid p) : p := h

/-- A part of a function's text, by its place. -/
def sub : List Nat → Code → Code
  | 0 :: p, .seq a _ => sub p a
  | 1 :: p, .seq _ b => sub p b
  | 2 :: p, .block _ c => sub p c
  | 3 :: p, .loop c => sub p c
  | _, c => c

/-- A block that holds just these values. -/
def rowObj (cs : List Value) (t : TypeId) : Obj := .cells cs.toArray t

theorem row_cell {w : World} {b : Nat} {cs : List Value} {t : TypeId} (h : w.heap[b]? = some (rowObj cs t)) (i : Nat) (v : Value) (hv : cs[i]? = some v) : w.cell? ⟨b, i, none⟩ = some v := by
  unfold World.cell?
  rw [h]
  simp [rowObj, hv]
theorem row_free {w : World} {b : Nat} {cs : List Value} {t : TypeId} (h : w.heap[b]? = some (rowObj cs t)) (i : Nat) : w.frozen? ⟨b, i, none⟩ = false := by
  unfold World.frozen?
  rw [h]
  simp [rowObj]
theorem row_set {w : World} {b : Nat} {cs : List Value} {t : TypeId} (h : w.heap[b]? = some (rowObj cs t)) (i : Nat) (x : Value) : (w.setCell ⟨b, i, none⟩ x).heap[b]? = some (rowObj (cs.set i x) t) := by
  simp only [World.setCell, Array.getElem?_modify, h, Option.map_some]
  simp [rowObj]

theorem lt_of_cell {w : World} {p : Addr} {v : Value} (hc : w.cell? p = some v) : p.block < w.heap.size := by
  unfold World.cell? at hc
  by_cases hlt : p.block < w.heap.size
  · exact hlt
  · rw [Array.getElem?_eq_none (by omega)] at hc
    cases hc

/-- 2^31 and its negative; 2^62, 2^63, 3 * 2^62, 2^64. -/
def fb (s : Bool) : Nat := if s then 13970166044103278592 else 4746794007248502784
def acc : Nat → Nat
  | 0 => 0
  | 1 => 4886405595696988160
  | 2 => 4890909195324358656
  | 3 => 4893160995138043904
  | _ => 4895412794951729152

theorem sq_bits (s : Bool) : floatBits .mul .f64 (fb s) (fb s) = some 4886405595696988160 := by cases s <;> kernel_rfl
theorem acc0 : floatBits .add .f64 (acc 0) 4886405595696988160 = some (acc 1) := by kernel_rfl
theorem acc1 : floatBits .add .f64 (acc 1) 4886405595696988160 = some (acc 2) := by kernel_rfl
theorem acc2 : floatBits .add .f64 (acc 2) 4886405595696988160 = some (acc 3) := by kernel_rfl
theorem acc3 : floatBits .add .f64 (acc 3) 4886405595696988160 = some (acc 4) := by kernel_rfl
theorem acc_bits : ∀ j : Nat, j < 4 → floatBits .add .f64 (acc j) 4886405595696988160 = some (acc (j + 1))
  | 0, _ => acc0
  | 1, _ => acc1
  | 2, _ => acc2
  | 3, _ => acc3
  | _ + 4, h => by omega
theorem neg_of (s : Bool) : (FloatKind.f64.format.order (fb s) 0 == some .lt) = s := by cases s <;> kernel_rfl

end Go.Proofs.Qxb6614855aDoor
