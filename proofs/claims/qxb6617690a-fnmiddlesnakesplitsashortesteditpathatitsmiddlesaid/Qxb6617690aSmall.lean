import Derived.Test.Qxb6617690aRowObj
import Derived.Test.Qxb6617690aSt
import Derived.WalkLawsBesides
import Derived.Deep.LoopGhost
namespace Go.Proofs.Qxb6617690a
open Go.RowKit Plain

set_option maxHeartbeats 1000000 in
theorem bytes5 (o0 o1 o2 o3 o4 o5 : Option Addr) (n0 n1 n2 n3 n4 n5 c0 c1 c2 c3 c4 c5 : Nat) (i0 i1 i2 i3 : Int) (w : World) :
    Calls Try.prog 5 #[.slice o0 n0 c0, .slice o1 n1 c1, .slice o2 n2 c2, .slice o3 n3 c3, .slice o4 n4 c4, .slice o5 n5 c5, .int .i64 i0, .int .i64 i1, .int .i64 i2, .int .i64 i3] w fun e w' => ∃ b, e = .returned (.bool b) ∧ w' = w := by
  go_enter Try.func5, Try.ntmps5
  go_wp2
  all_goals (go_ret; exact ⟨_, rfl, rfl⟩)

set_option maxHeartbeats 1000000 in
theorem bytes9 (o0 o1 o2 o3 o4 o5 : Option Addr) (n0 n1 n2 n3 n4 n5 c0 c1 c2 c3 c4 c5 : Nat) (i0 i1 i2 i3 : Int) (w : World) :
    Calls Try.prog 9 #[.slice o0 n0 c0, .slice o1 n1 c1, .slice o2 n2 c2, .slice o3 n3 c3, .slice o4 n4 c4, .slice o5 n5 c5, .int .i64 i0, .int .i64 i1, .int .i64 i2, .int .i64 i3] w fun e w' => ∃ b, e = .returned (.bool b) ∧ w' = w := by
  go_enter Try.func9, Try.ntmps9
  go_wp2
  all_goals (go_ret; exact ⟨_, rfl, rfl⟩)

/-- So far copied. -/
def partCopy (Z : List Int) (k : Nat) : List Int := Z.take k ++ List.replicate (Z.length - k) 0

theorem partCopy_zero (Z : List Int) : partCopy Z 0 = List.replicate Z.length 0 := by simp [partCopy]
theorem partCopy_all (Z : List Int) : partCopy Z Z.length = Z := by simp [partCopy]
theorem partCopy_len (Z : List Int) (k : Nat) (h : k ≤ Z.length) : (partCopy Z k).length = Z.length := by simp [partCopy]; omega
theorem partCopy_step (Z : List Int) (k : Nat) (h : k < Z.length) : (partCopy Z k).set k (Z.getD k 0) = partCopy Z (k + 1) := by
  unfold partCopy
  obtain ⟨m, hm⟩ : ∃ m, Z.length - k = m + 1 := ⟨Z.length - k - 1, by omega⟩
  have hm' : Z.length - (k + 1) = m := by omega
  rw [hm, hm', List.replicate_succ, List.set_append_right _ _ (by rw [List.length_take]; omega)]
  have e : k - (Z.take k).length = 0 := by rw [List.length_take]; omega
  rw [e, List.set_cons_zero, List.take_succ_eq_append_getElem h, List.append_assoc]
  simp [h]

theorem clone_any (Z : List Int) (b o n cap : Nat) (w : World) (hn : Z.length = n) (hz : n ≤ 65536) (hc : ∀ i, i < n → w.cell? ⟨b, o + i, none⟩ = some (.int .i64 (Z.getD i 0))) (hb : 0 < n → b < w.heap.size) :
    Calls Try.prog 6 #[.slice (some ⟨b, o, none⟩) n cap] w fun e w' => e = .returned (.slice (some ⟨w.heap.size, 0, none⟩) n n) ∧ w'.heap[w.heap.size]? = some (ints Z) ∧ Below w.heap.size w w' ∧ w.heap.size < w'.heap.size := by
  have hnil := fun W => Lib.run_eql_slice_nil (P := Try.prog) W 22 3 (some ⟨b, o, none⟩) n cap 0 0 Try.underlying22
  have hmk := fun W => make22 n hz W
  have Hc := hide hc
  have Hn := hide hn
  have Hb := hide hb
  clear hc hn hb
  go_enter Try.func6, Try.ntmps6
  go_wp2
  go_loopg [4] n (fun g s4 wr => ∃ k : Nat, s4 = .int .i64 k ∧ g + k = n ∧ wr.heap[w.heap.size]? = some (ints (partCopy Z k)) ∧ Below w.heap.size w wr ∧ w.heap.size < wr.heap.size)
  case atStart =>
    refine ⟨0, rfl, rfl, ?_, (Below.refl _ _).alloc (Nat.le_refl _) _, by simp⟩
    rw [partCopy_zero, unhide Hn]
    rw [heap_alloc_new]
    simp [ints, rowObj]
  case round =>
    obtain ⟨k, rfl, hg, hrow, hbel, hlt⟩ := hrel
    by_cases c : k < n
    · have hx := (hbel.cell (p := ⟨b, o + k, none⟩) (unhide Hb (by omega))).trans (unhide Hc k c)
      have hy := ints_cell hrow k (by rw [partCopy_len _ _ (by rw [unhide Hn]; omega), unhide Hn]; exact c)
      have hf := ints_free hrow k
      have hs := ints_set hrow k (Z.getD k 0)
      rw [partCopy_step Z k (by rw [unhide Hn]; exact c)] at hs
      obtain ⟨x, ex⟩ : ∃ x, x = Z.getD k 0 := ⟨_, rfl⟩
      rw [← ex] at hx hs
      have Hs := hide hs
      have Hbel := hide hbel
      have Hg := hide hg
      have HH := hide hrow
      clear hs hbel hg hrow ex
      go_wp2
      go_roundg (gk - 1)
      case measure => have := unhide Hg; omega
      case rel => exact ⟨k + 1, by go_num, by have := unhide Hg; omega, unhide Hs, (unhide Hbel).setCell (Nat.le_refl _) _, by simpa [World.setCell] using hlt⟩
    · obtain rfl : k = n := by omega
      have hall := hrow
      rw [← unhide Hn, partCopy_all] at hall
      have HH := hide hall
      have Hbel := hide hbel
      clear hrow hbel hg hall
      go_wp2
      go_ret
      exact ⟨rfl, unhide HH, unhide Hbel, hlt⟩

theorem same_any (Z : List Int) (b1 b2 c1 c2 : Nat) (w : World) (hz : Z.length ≤ 65536) (h1 : w.heap[b1]? = some (ints Z)) (h2 : w.heap[b2]? = some (ints Z)) :
    Calls Try.prog 10 #[.slice (some ⟨b1, 0, none⟩) Z.length c1, .slice (some ⟨b2, 0, none⟩) Z.length c2] w fun e w' => e = .returned (.bool true) ∧ ∃ n, w' = w.drewN n := by
  have hne : ((Z.length : Int) != (Z.length : Int)) = false := by simp
  go_enter Try.func10, Try.ntmps10
  go_wp2
  go_loopg [5] Z.length (fun g s5 wr => ∃ k n : Nat, s5 = .int .i64 k ∧ g + k = Z.length ∧ wr = w.drewN n)
  case atStart => exact ⟨0, 0, rfl, rfl, rfl⟩
  case round =>
    obtain ⟨k, m, rfl, hg, rfl⟩ := hrel
    by_cases c : k < Z.length
    · have hx := ints_cell h1 k c
      have hy := ints_cell h2 k c
      obtain ⟨x, ex⟩ : ∃ x, x = Z.getD k 0 := ⟨_, rfl⟩
      rw [← ex] at hx hy
      have hxx : (x != x) = false := by simp
      have c' : (k : Int) < (Z.length : Int) := by omega
      have c0 : (0 : Int) ≤ (k : Int) := by omega
      have Hg := hide hg
      clear ex hg
      go_wp2_with fail
      go_quiet (fail)
      go_wp2
      go_roundg (gk - 1)
      case measure => have := unhide Hg; omega
      case rel => exact ⟨k + 1, m + nq, by go_num, by have := unhide Hg; omega, by first | rfl | simp⟩
    · have Hg := hide hg
      clear hg
      go_wp2
      go_ret
      exact ⟨rfl, m, rfl⟩

end Go.Proofs.Qxb6617690a
