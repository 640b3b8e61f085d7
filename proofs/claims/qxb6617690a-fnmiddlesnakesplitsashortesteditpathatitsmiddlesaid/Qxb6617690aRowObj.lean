import Derived.Test.Qxb6617690aFur
import Derived.Laws.CopyOwn
import Derived.Laws.MakeOwn
namespace Go.Proofs.Qxb6617690a
open Go.RowKit Plain

/-- A block that holds just these values. -/
def rowObj (cs : List Value) (t : TypeId) : Obj := .cells cs.toArray t

theorem size3 : (Try.prog.info? 3).map (·.size) = some 1 := by kernel_rfl
theorem size4 : (Try.prog.info? 4).map (·.size) = some 1 := by kernel_rfl
theorem info3 : (Try.prog.info? 3).map (fun i => (i.zero, i.size, i.bytes)) = some (some (.int .i64 0), 1, 8) := by kernel_rfl
theorem info4 : (Try.prog.info? 4).map (fun i => (i.zero, i.size, i.bytes)) = some (some (.bool false), 1, 1) := by kernel_rfl

theorem made_eq (z : Value) (n : Nat) : madeCells #[z] n = (List.replicate n z).toArray := by
  apply Array.toList_inj.1
  rw [toList_madeCells_one]

theorem make22 (n : Nat) (h : n ≤ 65536) (W : World) : (Instr.makeSlice 22 (.int .i64 (n : Int)) (.int .i64 (n : Int))).run Try.prog W = .ok (.slice (some ⟨W.heap.size, 0, none⟩) n n) (W.alloc (rowObj (List.replicate n (.int .i64 0)) 3)) := by
  obtain ⟨i0, hi, hz0, hz1, hz2⟩ := info_parts info3
  rw [run_make W 22 3 i0 (.int .i64 0) Try.underlying22 hi hz0 .i64 .i64 n n (by omega) (by omega) (by rw [hz2]; omega) (by omega)]
  rw [hz1, Int.toNat_natCast, Nat.mul_one]
  unfold rowObj
  rw [← made_eq]
  rfl

theorem make23 (n : Nat) (h : n ≤ 65536) (W : World) : (Instr.makeSlice 23 (.int .i64 (n : Int)) (.int .i64 (n : Int))).run Try.prog W = .ok (.slice (some ⟨W.heap.size, 0, none⟩) n n) (W.alloc (rowObj (List.replicate n (.bool false)) 4)) := by
  obtain ⟨i0, hi, hz0, hz1, hz2⟩ := info_parts info4
  rw [run_make W 23 4 i0 (.bool false) Try.underlying23 hi hz0 .i64 .i64 n n (by omega) (by omega) (by rw [hz2]; omega) (by omega)]
  rw [hz1, Int.toNat_natCast, Nat.mul_one]
  unfold rowObj
  rw [← made_eq]
  rfl

/-- What is there is there behind a new block. -/
theorem copy_src {w : World} {p : Addr} {v : Value} (h : w.cell? p = some v) (o : Obj) : (w.alloc o).cell? p = w.cell? p := by
  refine World.cell?_alloc_lt w o p ?_
  unfold World.cell? at h
  by_cases hlt : p.block < w.heap.size
  · exact hlt
  · rw [Array.getElem?_eq_none (by omega)] at h
    cases h

/-- 'zzc := make([]T, len(a)); copy(zzc, a)': the second step. -/
theorem copy_run (T E : TypeId) (z : Value) (hu : Try.prog.underlying T = some (.slice E)) (hs : (Try.prog.info? E).map (·.size) = some 1) (wr : World) (ad : Addr) (n cap : Nat) (cs : List Value) (hn : cs.length = n)
    (hsrc : ∀ j v, cs[j]? = some v → wr.cell? (ad.add j) = some v) (h1 : ∀ v ∈ cs, v.oneCell' = true) :
    ∃ W2, (Builtin.copy_ #[T, T] 3 #[.slice (some ⟨wr.heap.size, 0, none⟩) n n, .slice (some ad) n cap]).run Try.prog (wr.alloc (rowObj (List.replicate n z) E)) = .ok (.int .i64 n) W2 ∧
      W2.heap[wr.heap.size]? = some (rowObj cs E) ∧ Below wr.heap.size wr W2 ∧ wr.heap.size < W2.heap.size := by
  have hg : (wr.alloc (rowObj (List.replicate n z) E)).heap[wr.heap.size]? = some (.cells (List.replicate n z).toArray E (0, 0)) := heap_alloc_new _ _
  have hrun := run_copy_row (P := Try.prog) (wr.alloc (rowObj (List.replicate n z) E)) T T 3 E wr.heap.size 0 n n ad n cap (List.replicate n z).toArray E cs hu hs hg (by rw [hn]; simp) (fun j v hv => by rw [copy_src (hsrc j v hv)]; exact hsrc j v hv) (by simp; omega) h1
  refine ⟨_, by rw [hrun, hn]; rfl, ?_, ?_, ?_⟩
  · rw [setRow_heap _ _ _ _ _ _ hg]
    unfold rowObj
    congr 2
    simp
  · exact below_setRow ((Below.refl _ _).alloc (Nat.le_refl _) _) (Nat.le_refl _) _
  · simp [World.setRow]

end Go.Proofs.Qxb6617690a
