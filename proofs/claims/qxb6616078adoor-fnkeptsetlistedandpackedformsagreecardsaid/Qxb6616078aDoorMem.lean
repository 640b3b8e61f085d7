/- The memory side: blocks known whole; slices that came in; makes and copies. -/
import Derived.WalkKit
import Derived.WalkSpells
import Derived.Deep.QuietTactic
import Derived.BigQuiet
import Derived.Deep.LoopGhost
import Derived.WalkLawsBesides
import Derived.Laws.CopyOwn
import Derived.Laws.MakeOwn
import Derived.Test.Qxb6616078aDoorTz
namespace Go.Proofs.Qxb6616078aDoor
open Go.RowKit

theorem hide {p : Prop} (h : p) : Hid p := h
theorem unhide {p : Prop} (h : Hid p) : p := h

/-- A block that holds just these values. -/
def rowObj (cs : List Value) (t : TypeId) : Obj := .cells cs.toArray t

theorem row_cell {w : World} {b : Nat} {cs : List Value} {t : TypeId} (h : w.heap[b]? = some (rowObj cs t)) (i : Nat) (v : Value) (hv : cs[i]? = some v) : w.cell? ⟨b, i, none⟩ = some v := by
  unfold World.cell?
  rw [h]
  simp [rowObj, hv]

theorem row_free {w : World} {b : Nat} {cs : List Value} {t : TypeId} (h : w.heap[b]? = some (rowObj cs t)) (i : Nat) : w.frozen? ⟨b, i, none⟩ = false := by
  unfold World.frozen?
  rw [h]
  simp [rowObj]

theorem row_set {w : World} {b : Nat} {cs : List Value} {t : TypeId} (h : w.heap[b]? = some (rowObj cs t)) (i : Nat) (x : Value) : (w.setCell ⟨b, i, none⟩ x).heap[b]? = some (rowObj (cs.set i x) t) := by
  simp only [World.setCell, Array.getElem?_modify, h, Option.map_some]
  simp [rowObj]

/-- Rows of ints, of words, of bools. -/
def ints (F : List Int) : List Value := F.map (Value.int .i64)
def nats (F : List Nat) : List Value := F.map fun x : Nat => Value.int .i64 (x : Int)
def words (F : List Nat) : List Value := F.map fun x : Nat => Value.int .u64 (x : Int)
def bools (F : List Bool) : List Value := F.map Value.bool

theorem nats_at {F : List Nat} {i : Nat} (h : i < F.length) : (nats F)[i]? = some (.int .i64 (F.getD i 0 : Nat)) := by
  simp [nats, h]
theorem words_at {F : List Nat} {i : Nat} (h : i < F.length) : (words F)[i]? = some (.int .u64 (F.getD i 0 : Nat)) := by
  simp [words, h]
theorem bools_at {F : List Bool} {i : Nat} (h : i < F.length) : (bools F)[i]? = some (.bool (F.getD i false)) := by
  simp [bools, h]
theorem words_set (F : List Nat) (i x : Nat) : (words F).set i (.int .u64 (x : Int)) = words (F.set i x) := by simp [words, List.map_set]
theorem bools_set (F : List Bool) (i : Nat) (x : Bool) : (bools F).set i (.bool x) = bools (F.set i x) := by simp [bools, List.map_set]
theorem nats_len (F : List Nat) : (nats F).length = F.length := by simp [nats]
theorem nats_one (F : List Nat) : ∀ v ∈ nats F, v.oneCell' = true := by
  intro v hv
  obtain ⟨i, _, rfl⟩ := List.mem_map.1 hv
  rfl

theorem addr_add (b o j : Nat) : (⟨b, o, none⟩ : Addr).add j = ⟨b, o + j, none⟩ := by
  unfold Addr.add
  split
  · rename_i h; subst h; rfl
  · rfl

theorem size3 : (Tryd.prog.info? 3).map (·.size) = some 1 := by kernel_rfl
theorem info3 : (Tryd.prog.info? 3).map (fun i => (i.zero, i.size, i.bytes)) = some (some (.int .i64 0), 1, 8) := by kernel_rfl
theorem info4 : (Tryd.prog.info? 4).map (fun i => (i.zero, i.size, i.bytes)) = some (some (.bool false), 1, 1) := by kernel_rfl
theorem info27 : (Tryd.prog.info? 27).map (fun i => (i.zero, i.size, i.bytes)) = some (some (.int .u64 0), 1, 8) := by kernel_rfl

theorem made_eq (z : Value) (n : Nat) : madeCells #[z] n = (List.replicate n z).toArray := by
  apply Array.toList_inj.1
  rw [toList_madeCells_one]

theorem make22 (n : Nat) (h : n ≤ 65536) (W : World) : (Instr.makeSlice 22 (.int .i64 (n : Int)) (.int .i64 (n : Int))).run Tryd.prog W = .ok (.slice (some ⟨W.heap.size, 0, none⟩) n n) (W.alloc (rowObj (List.replicate n (.int .i64 0)) 3)) := by
  obtain ⟨i0, hi, hz0, hz1, hz2⟩ := info_parts info3
  rw [run_make W 22 3 i0 (.int .i64 0) Tryd.underlying22 hi hz0 .i64 .i64 n n (by omega) (by omega) (by rw [hz2]; omega) (by omega)]
  rw [hz1, Int.toNat_natCast, Nat.mul_one]
  unfold rowObj
  rw [← made_eq]
  rfl

theorem make26 (n : Nat) (h : n ≤ 65536) (W : World) : (Instr.makeSlice 26 (.int .i64 (n : Int)) (.int .i64 (n : Int))).run Tryd.prog W = .ok (.slice (some ⟨W.heap.size, 0, none⟩) n n) (W.alloc (rowObj (List.replicate n (.int .u64 0)) 27)) := by
  obtain ⟨i0, hi, hz0, hz1, hz2⟩ := info_parts info27
  rw [run_make W 26 27 i0 (.int .u64 0) Tryd.underlying26 hi hz0 .i64 .i64 n n (by omega) (by omega) (by rw [hz2]; omega) (by omega)]
  rw [hz1, Int.toNat_natCast, Nat.mul_one]
  unfold rowObj
  rw [← made_eq]
  rfl

theorem make24 (n : Nat) (h : n ≤ 65536) (W : World) : (Instr.makeSlice 24 (.int .i64 (n : Int)) (.int .i64 (n : Int))).run Tryd.prog W = .ok (.slice (some ⟨W.heap.size, 0, none⟩) n n) (W.alloc (rowObj (List.replicate n (.bool false)) 4)) := by
  obtain ⟨i0, hi, hz0, hz1, hz2⟩ := info_parts info4
  rw [run_make W 24 4 i0 (.bool false) Tryd.underlying24 hi hz0 .i64 .i64 n n (by omega) (by omega) (by rw [hz2]; omega) (by omega)]
  rw [hz1, Int.toNat_natCast, Nat.mul_one]
  unfold rowObj
  rw [← made_eq]
  rfl

/-- A slice, as the walks read it. -/
structure Arg (w : World) (oa : Option Addr) (n : Nat) (cs : List Value) : Prop where
  len : cs.length = n
  nil : oa = none → n = 0
  one : ∀ v ∈ cs, v.oneCell' = true
  cell : ∀ ad, oa = some ad → ∀ j v, cs[j]? = some v → w.cell? (ad.add j) = some v

theorem lt_of_cell {w : World} {p : Addr} {v : Value} (hc : w.cell? p = some v) : p.block < w.heap.size := by
  unfold World.cell? at hc
  by_cases hlt : p.block < w.heap.size
  · exact hlt
  · rw [Array.getElem?_eq_none (by omega)] at hc
    cases hc

/-- It reads so in a world that has kept all that was there. -/
theorem Arg.later {w w' : World} {oa : Option Addr} {n : Nat} {cs : List Value} (h : Arg w oa n cs) (hb : Below w.heap.size w w') : Arg w' oa n cs := by
  refine ⟨h.len, h.nil, h.one, fun ad e j v hv => ?_⟩
  have hc := h.cell ad e j v hv
  exact (hb.cell (lt_of_cell hc)).trans hc

/-- A slice that holds something: where it lies. -/
theorem Arg.plain {w : World} {oa : Option Addr} {n : Nat} {cs : List Value} (h : Arg w oa n cs) (hp : 0 < n) :
    ∃ b o, oa = some ⟨b, o, none⟩ ∧ b < w.heap.size ∧ ∀ i v, cs[i]? = some v → w.cell? ⟨b, o + i, none⟩ = some v := by
  have hl := h.len
  cases oa with
  | none => exact absurd (h.nil rfl) (by omega)
  | some ad =>
    have hc := h.cell ad rfl 0 _ (List.getElem?_eq_getElem (by omega))
    have hz : ad.add 0 = ad := rfl
    rw [hz] at hc
    have hlt := lt_of_cell hc
    obtain ⟨b, o, sp⟩ := ad
    have hs : sp = none := by
      cases sp with
      | none => rfl
      | some s =>
        unfold World.cell? at hc
        split at hc <;> simp at hc
    subst hs
    refine ⟨b, o, rfl, hlt, fun i v hv => ?_⟩
    have := h.cell _ rfl i v hv
    rwa [addr_add] at this

/-- What is there is there behind a new block. -/
theorem copy_src {w : World} {p : Addr} {v : Value} (h : w.cell? p = some v) (o : Obj) : (w.alloc o).cell? p = w.cell? p :=
  World.cell?_alloc_lt w o p (lt_of_cell h)

/-- 'c := make([]T, len(s)); copy(c, s)': the second step. -/
theorem copy_run (T E : TypeId) (z : Value) (hu : Tryd.prog.underlying T = some (.slice E)) (hs : (Tryd.prog.info? E).map (·.size) = some 1) (wr : World) (ad : Addr) (n cap : Nat) (cs : List Value) (hn : cs.length = n)
    (hsrc : ∀ j v, cs[j]? = some v → wr.cell? (ad.add j) = some v) (h1 : ∀ v ∈ cs, v.oneCell' = true) :
    ∃ W2, (Builtin.copy_ #[T, T] 3 #[.slice (some ⟨wr.heap.size, 0, none⟩) n n, .slice (some ad) n cap]).run Tryd.prog (wr.alloc (rowObj (List.replicate n z) E)) = .ok (.int .i64 n) W2 ∧
      W2.heap[wr.heap.size]? = some (rowObj cs E) ∧ Below wr.heap.size wr W2 ∧ wr.heap.size < W2.heap.size := by
  have hg : (wr.alloc (rowObj (List.replicate n z) E)).heap[wr.heap.size]? = some (.cells (List.replicate n z).toArray E (0, 0)) := heap_alloc_new _ _
  have hrun := run_copy_row (P := Tryd.prog) (wr.alloc (rowObj (List.replicate n z) E)) T T 3 E wr.heap.size 0 n n ad n cap (List.replicate n z).toArray E cs hu hs hg (by rw [hn]; simp) (fun j v hv => by rw [copy_src (hsrc j v hv)]; exact hsrc j v hv) (by simp; omega) h1
  refine ⟨_, by rw [hrun, hn]; rfl, ?_, ?_, ?_⟩
  · rw [setRow_heap _ _ _ _ _ _ hg]
    unfold rowObj
    congr 2
    simp
  · exact below_setRow ((Below.refl _ _).alloc (Nat.le_refl _) _) (Nat.le_refl _) _
  · simp [World.setRow]

/-- A row of one's own, read as a slice. -/
theorem arg_of_row {w : World} {g : Nat} {cs : List Value} {t : TypeId} (h : w.heap[g]? = some (rowObj cs t)) (h1 : ∀ v ∈ cs, v.oneCell' = true) : Arg w (some ⟨g, 0, none⟩) cs.length cs := by
  refine ⟨rfl, fun e => (by cases e), h1, fun ad e j v hv => ?_⟩
  obtain rfl := Option.some.inj e
  rw [addr_add, Nat.zero_add]
  exact row_cell h j v hv

theorem arg_nil (w : World) : Arg w none 0 [] := ⟨rfl, fun _ => rfl, fun _ h => (by simp at h), fun _ h => (by cases h)⟩

/-- A slice that the call has built by append, read as a slice. -/
theorem arg_of_owns {w : World} {base : Nat} {v : Value} {F : List Nat} (h : w.ownsRow base 3 1 v F.length (nats F)) : ∃ oa cap, v = .slice oa F.length cap ∧ Arg w oa F.length (nats F) := by
  rcases h.2 with ⟨rfl, hn⟩ | ⟨g, cap, cur, rfl, _, hg, hl, _, hs, ht⟩
  · have : F = [] := List.length_eq_zero_iff.1 hn
    subst this
    exact ⟨none, 0, rfl, arg_nil w⟩
  · refine ⟨_, cap, rfl, ⟨nats_len F, fun e => (by cases e), nats_one F, fun ad e j v hv => ?_⟩⟩
    obtain rfl := Option.some.inj e
    rw [addr_add, Nat.zero_add]
    unfold World.cell?
    rw [hg]
    rw [← ht] at hv
    rw [List.getElem?_take] at hv
    split at hv
    · simpa using hv
    · cases hv

end Go.Proofs.Qxb6616078aDoor
