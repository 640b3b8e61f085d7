import Derived.Test.Qxb6617690aRows
import Derived.Test.Qxb6617690aMem
namespace Go.Proofs.Qxb6617690a
open Go.RowKit Plain

/-- The entry of a table, at the index as the walk reckons it. -/
theorem tb_cell {F : List Int} {bf : Nat} {off k : Int} {w : World} (hb : w.heap[bf]? = some (ints F)) (i : Nat) (h0 : 0 ≤ off + k) (h1 : off + k < F.length) (hi : i = (off + k).toNat) :
    ∃ x, w.cell? ⟨bf, i, none⟩ = some (.int .i64 x) ∧ Hid (tb F off k = x) := by
  subst hi
  exact ⟨_, ints_cell hb _ (by omega), rfl⟩

theorem wrap_in (n : Int) (h0 : -9223372036854775808 ≤ n) (h1 : n ≤ 9223372036854775807) : IntKind.i64.wrap n = n := by
  rw [IntKind.wrap_i64]
  omega

theorem fur_any (F : List Int) (bf cap : Nat) (off k d : Int) (w : World) (hb : w.heap[bf]? = some (ints F)) (d0 : 0 ≤ d) (k0 : -d ≤ k) (k1 : k ≤ d) (o0 : d ≤ off) (o1 : off + d + 1 < F.length) (hl : F.length ≤ 65536)
    (hv : -d < k → 0 ≤ tb F off (k - 1) ∧ tb F off (k - 1) ≤ 1000000) :
    Calls Try.prog 13 #[.slice (some ⟨bf, 0, none⟩) F.length cap, .int .i64 off, .int .i64 k, .int .i64 d] w fun e w' => e = .returned (.int .i64 (fur F off k d)) ∧ ∃ n, w' = w.drewN n := by
  have hwd : IntKind.i64.wrap (-d) = -d := wrap_in _ (by omega) (by omega)
  by_cases c1 : k = -d
  · obtain ⟨xr, g1, e1⟩ := tb_cell (off := off) (k := k + 1) hb (off + k + 1).toNat (by omega) (by omega) (by omega)
    have hr : fur F off k d = xr := by rw [← unhide e1]; exact if_pos (Or.inl c1)
    have b1 : (k == -d) = true := by simp [c1]
    have i0 : 0 ≤ off + k + 1 := by omega
    have i1 : off + k + 1 < F.length := by omega
    have Hr := hide hr
    have Hc := hide c1
    clear hr c1 hv
    go_enter Try.func13, Try.ntmps13
    go_wp2_with fail
    go_quiet (fail)
    go_wp2
    go_ret
    exact ⟨by rw [unhide Hr]; rfl, nq, rfl⟩
  · have b1 : (k == -d) = false := by simp [c1]
    obtain ⟨xl, g2, e2⟩ := tb_cell (off := off) (k := k - 1) hb ((off + k).toNat - 1) (by omega) (by omega) (by omega)
    have hv' := hv (by omega)
    rw [unhide e2] at hv'
    obtain ⟨v1, v2⟩ := hv'
    have j0 : 0 ≤ off + k - 1 := by omega
    have j1 : off + k - 1 < F.length := by omega
    by_cases c2 : k = d
    · have hr : fur F off k d = xl + 1 := by rw [← unhide e2]; exact if_neg (by omega)
      have b2 : (k != d) = false := by simp [c2]
      have Hr := hide hr
      have Hc := hide c1
      have Hd := hide c2
      clear hr c1 c2 hv
      go_enter Try.func13, Try.ntmps13
      go_wp2_with fail
      go_quiet (fail)
      go_wp2
      go_ret
      exact ⟨by rw [unhide Hr]; rfl, nq, rfl⟩
    · have b2 : (k != d) = true := by simp [c2]
      obtain ⟨xr, g1, e1⟩ := tb_cell (off := off) (k := k + 1) hb (off + k + 1).toNat (by omega) (by omega) (by omega)
      have i0 : 0 ≤ off + k + 1 := by omega
      have i1 : off + k + 1 < F.length := by omega
      by_cases c3 : xl < xr
      · have hr : fur F off k d = xr := by rw [← unhide e1]; exact if_pos (Or.inr ⟨c2, by rw [unhide e2, unhide e1]; exact c3⟩)
        have Hr := hide hr
        have Hc := hide c1
        have Hd := hide c2
        clear hr c1 c2 hv
        go_enter Try.func13, Try.ntmps13
        go_wp2_with fail
        go_quiet (fail)
        go_wp2
        go_ret
        exact ⟨by rw [unhide Hr]; rfl, nq, rfl⟩
      · have hr : fur F off k d = xl + 1 := by rw [← unhide e2]; exact if_neg (by rw [unhide e2, unhide e1]; omega)
        have Hr := hide hr
        have Hc := hide c1
        have Hd := hide c2
        clear hr c1 c2 hv
        go_enter Try.func13, Try.ntmps13
        go_wp2_with fail
        go_quiet (fail)
        go_wp2
        go_ret
        exact ⟨by rw [unhide Hr]; rfl, nq, rfl⟩
end Go.Proofs.Qxb6617690a
