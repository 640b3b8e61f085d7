/- The small callees. -/
import Derived.Test.Qxb6616078aDoorMem
namespace Go.Proofs.Qxb6616078aDoor
open Go.RowKit

theorem bytes_any (oa : Option Addr) (n cap : Nat) (w : World) : Calls Tryd.prog 4 #[.slice oa n cap] w fun e w' => ∃ b, e = .returned (.bool b) ∧ w' = w := by
  go_enter Tryd.func4, Tryd.ntmps4
  go_wp2
  all_goals (go_ret; exact ⟨_, rfl, rfl⟩)

theorem clone_any (oa : Option Addr) (n cap : Nat) (cs : List Value) (w : World) (hA : Arg w oa n cs) (hz : n ≤ 65536) :
    Calls Tryd.prog 5 #[.slice oa n cap] w fun e w' => ∃ oa' cap', e = .returned (.slice oa' n cap') ∧ Arg w' oa' n cs ∧ Below w.heap.size w w' := by
  cases oa with
  | none =>
    obtain rfl := hA.nil rfl
    have hnil := fun W => Lib.run_eql_slice_nil (P := Tryd.prog) W 22 3 none 0 cap 0 0 Tryd.underlying22
    have HA := hide hA
    clear hA
    go_enter Tryd.func5, Tryd.ntmps5
    go_wp2
    go_ret
    exact ⟨none, 0, rfl, unhide HA, Below.refl _ _⟩
  | some ad =>
    have hnil := fun W => Lib.run_eql_slice_nil (P := Tryd.prog) W 22 3 (some ad) n cap 0 0 Tryd.underlying22
    have hmk := fun W => make22 n hz W
    obtain ⟨W2, hrun, hrow, hbel, hlt⟩ := copy_run 22 3 (.int .i64 0) Tryd.underlying22 size3 w ad n cap cs hA.len (hA.cell ad rfl) hA.one
    have ha := arg_of_row hrow hA.one
    rw [hA.len] at ha
    have HA := hide ha
    have Hb := hide hbel
    clear ha hbel hrow hlt hA
    go_enter Tryd.func5, Tryd.ntmps5
    go_wp2_with fail
    go_ret
    exact ⟨_, _, rfl, unhide HA, unhide Hb⟩

theorem same_any (F : List Nat) (oa ob : Option Addr) (n ca cb : Nat) (w : World) (hz : n ≤ 65536) (hA : Arg w oa n (nats F)) (hB : Arg w ob n (nats F)) :
    Calls Tryd.prog 7 #[.slice oa n ca, .slice ob n cb] w fun e w' => e = .returned (.bool true) ∧ ∃ m, w' = w.drewN m := by
  have hne : ((n : Int) != (n : Int)) = false := by simp
  have hl : F.length = n := by have := hA.len; rwa [nats_len] at this
  by_cases hp : 0 < n
  · obtain ⟨b1, o1, rfl, _, h1⟩ := hA.plain hp
    obtain ⟨b2, o2, rfl, _, h2⟩ := hB.plain hp
    have H1 := hide h1
    have H2 := hide h2
    have Hl := hide hl
    clear hA hB h1 h2 hl
    go_enter Tryd.func7, Tryd.ntmps7
    go_wp2
    go_loopg [5] n (fun g s5 wr => ∃ k m : Nat, s5 = .int .i64 k ∧ g + k = n ∧ wr = w.drewN m)
    case atStart => exact ⟨0, 0, rfl, rfl, rfl⟩
    case round =>
      obtain ⟨k, m, rfl, hg, rfl⟩ := hrel
      by_cases c : k < n
      · have hat := nats_at (F := F) (i := k) (by rw [unhide Hl]; exact c)
        have hx := unhide H1 k _ hat
        have hy := unhide H2 k _ hat
        obtain ⟨x, ex⟩ : ∃ x : Int, x = ((F.getD k 0 : Nat) : Int) := ⟨_, rfl⟩
        rw [← ex] at hx hy
        have hxx : (x != x) = false := by simp
        have c' : (k : Int) < (n : Int) := by omega
        have c0 : (0 : Int) ≤ (k : Int) := by omega
        have Hg := hide hg
        clear ex hg hat
        go_wp2_with fail
        go_quiet (fail)
        go_wp2
        go_roundg (gk - 1)
        case measure => have := unhide Hg; omega
        case rel => exact ⟨k + 1, m + nq, by go_num, by have := unhide Hg; omega, by first | rfl | simp⟩
      · have Hg := hide hg
        clear hg
        go_wp2
        go_ret
        exact ⟨rfl, m, rfl⟩
  · obtain rfl : n = 0 := by omega
    clear hA hB hl
    go_enter Tryd.func7, Tryd.ntmps7
    go_wp2
    refine wp_loop_rounds 1 ?_
    rw [rounds_succ]
    go_wp2
    go_ret
    exact ⟨rfl, 0, rfl⟩

theorem kept_any (oa ob : Option Addr) (na ca nb cb n : Nat) (w : World) : Calls Tryd.prog 6 #[.slice oa na ca, .slice ob nb cb, .int .i64 n] w fun e w' => e = .returned (.pointer (some ⟨w.heap.size, 0, none⟩)) ∧ w' = w.alloc (.cells #[.slice oa na ca, .slice ob nb cb, .int .i64 n, .int .i64 0, .int .i64 0] 34) := by
  go_enter Tryd.func6, Tryd.ntmps6
  go_wp2
  go_ret
  exact ⟨rfl, rfl⟩

end Go.Proofs.Qxb6616078aDoor
