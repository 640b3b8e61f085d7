/- The memory side: a block of ints known whole; what a call may touch. -/
import Derived.WalkKit
import Derived.WalkSpells
import Derived.Deep.QuietTactic
import Derived.BigQuiet
import Derived.Test.Qxb6617690aFinds
namespace Go.Proofs.Qxb6617690a
open Go.RowKit

theorem hide {p : Prop} (h : p) : Hid p := h
theorem unhide {p : Prop} (h : Hid p) : p := h

/-- A block that holds just the ints F. -/
def ints (F : List Int) : Obj := .cells (F.map (Value.int .i64)).toArray 3

theorem ints_cell {w : World} {b : Nat} {F : List Int} (h : w.heap[b]? = some (ints F)) (i : Nat) (hi : i < F.length) : w.cell? ⟨b, i, none⟩ = some (.int .i64 (F.getD i 0)) := by
  unfold World.cell?
  rw [h]
  simp [ints, hi]

theorem ints_free {w : World} {b : Nat} {F : List Int} (h : w.heap[b]? = some (ints F)) (i : Nat) : w.frozen? ⟨b, i, none⟩ = false := by
  unfold World.frozen?
  rw [h]
  simp [ints]

theorem ints_set {w : World} {b : Nat} {F : List Int} (h : w.heap[b]? = some (ints F)) (i : Nat) (x : Int) : (w.setCell ⟨b, i, none⟩ (.int .i64 x)).heap[b]? = some (ints (F.set i x)) := by
  simp only [World.setCell, Array.getElem?_modify, h, Option.map_some]
  simp [ints, List.map_set]

/-- What a call may touch: blocks that are there and not in S are as they were. -/
structure Touch (S : Nat → Prop) (w w' : World) : Prop where
  os : w'.os = w.os
  tape : w'.tape = w.tape
  output : w'.output = w.output
  size : w.heap.size ≤ w'.heap.size
  block : ∀ k, k < w.heap.size → ¬ S k → w'.heap[k]? = w.heap[k]?

theorem Touch.refl (S : Nat → Prop) (w : World) : Touch S w w := ⟨rfl, rfl, rfl, Nat.le_refl _, fun _ _ _ => rfl⟩
theorem Touch.trans {S : Nat → Prop} {a b c : World} (h : Touch S a b) (k : Touch S b c) : Touch S a c :=
  ⟨k.os.trans h.os, k.tape.trans h.tape, k.output.trans h.output, Nat.le_trans h.size k.size, fun i hi hs => (k.block i (Nat.lt_of_lt_of_le hi h.size) hs).trans (h.block i hi hs)⟩
theorem Touch.drew {S : Nat → Prop} {a w : World} (h : Touch S a w) : Touch S a w.drew := ⟨h.os, h.tape, h.output, h.size, h.block⟩
theorem Touch.drewN {S : Nat → Prop} {a w : World} (h : Touch S a w) (n : Nat) : Touch S a (w.drewN n) := ⟨h.os, h.tape, h.output, h.size, h.block⟩
theorem Touch.setCell {S : Nat → Prop} {a w : World} (h : Touch S a w) {p : Addr} (hp : S p.block) (u : Value) : Touch S a (w.setCell p u) :=
  h.trans ⟨rfl, rfl, rfl, by simp [World.setCell], fun k _ hs => Below.heap_setCell _ _ _ _ (fun e => hs (e ▸ hp))⟩
theorem Touch.alloc {S : Nat → Prop} {a w : World} (h : Touch S a w) (o : Obj) : Touch S a (w.alloc o) :=
  h.trans ⟨rfl, rfl, rfl, by simp, fun k hk _ => Below.heap_alloc _ _ _ hk⟩
theorem Touch.mono {S S' : Nat → Prop} {a w : World} (h : Touch S a w) (hS : ∀ k, S k → S' k) : Touch S' a w :=
  ⟨h.os, h.tape, h.output, h.size, fun k hk hs => h.block k hk fun e => hs (hS k e)⟩
theorem Touch.below {S : Nat → Prop} {a w : World} (h : Touch S a w) {B : Nat} (hB : B ≤ a.heap.size) (hS : ∀ k, S k → B ≤ k) : Below B a w :=
  ⟨h.os, h.tape, h.output, h.size, fun k hk => h.block k (by omega) fun e => by have := hS k e; omega⟩
theorem Touch.cell {S : Nat → Prop} {a w : World} (h : Touch S a w) {p : Addr} (hp : p.block < a.heap.size) (hs : ¬ S p.block) : w.cell? p = a.cell? p := World.cell?_of_block (w := a) (h.block p.block hp hs)
theorem Touch.frozen {S : Nat → Prop} {a w : World} (h : Touch S a w) {p : Addr} (hp : p.block < a.heap.size) (hs : ¬ S p.block) : w.frozen? p = a.frozen? p := World.frozen?_of_block (w := a) (h.block p.block hp hs)

end Go.Proofs.Qxb6617690a
