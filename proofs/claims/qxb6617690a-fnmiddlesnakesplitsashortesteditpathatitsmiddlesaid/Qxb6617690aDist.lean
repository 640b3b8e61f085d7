import Derived.Test.Qxb6617690aLcsWalk
namespace Go.Proofs.Qxb6617690a
open Go.RowKit Plain

theorem dist_any (w : World) (A B : List Int) (lo hi lo' hi' n0 n1 ca cb ba pa bb pb : Nat) (oa ob : Option Addr) (SA : Stretch w A lo n0 oa ba pa) (SB : Stretch w B lo' n1 ob bb pb)
    (h1 : hi = lo + A.length) (h2 : hi' = lo' + B.length) (k0 : n0 ≤ 4096) (k1 : n1 ≤ 4096) :
    Calls Try.prog 8 #[.slice oa n0 ca, .int .i64 lo, .int .i64 hi, .slice ob n1 cb, .int .i64 lo', .int .i64 hi'] w fun e w' => e = .returned (.int .i64 (Ei (mtL A B) A.length B.length)) ∧ Below w.heap.size w w' := by
  have hs : (oa = some ⟨ba, pa, none⟩ ∧ ob = some ⟨bb, pb, none⟩) ∨ A.length = 0 ∨ B.length = 0 := by
    by_cases a : A.length = 0
    · exact Or.inr (Or.inl a)
    · by_cases b : B.length = 0
      · exact Or.inr (Or.inr b)
      · exact Or.inl ⟨(SA.addr (by omega)).1, (SB.addr (by omega)).1⟩
  have hc := lcs_any w A B lo hi lo' hi' n0 n1 ca cb ba pa bb pb oa ob SA SB h1 h2 k0 k1 hs
  obtain ⟨t, ht⟩ : ∃ t : Int, t = (T (mtL A B) A.length B.length : Int) := ⟨_, rfl⟩
  have b1 : 0 ≤ t ∧ t ≤ 4096 := by have := T_le_left (mtL A B) B.length A.length; have := SA.fit; omega
  have f1 := SA.fit
  have f2 := SB.fit
  have he : Ei (mtL A B) A.length B.length = (hi : Int) - lo + ((hi' : Int) - lo') - 2 * t := by
    unfold Ei
    rw [Int.toNat_natCast, Int.toNat_natCast, ← ht]
    omega
  rw [← ht] at hc
  rw [he]
  have g1 : lo ≤ hi := by omega
  have g2 : hi ≤ 4096 := by omega
  have g3 : lo' ≤ hi' := by omega
  have g4 : hi' ≤ 4096 := by omega
  have HC := hide hc
  clear hc ht he hs SA SB h1 h2
  go_enter Try.func8, Try.ntmps8
  go_wp2_with (go_at_call 12; refine (unhide HC).mono ?_; rintro e w' ⟨rfl, hb⟩)
  go_ret
  exact ⟨rfl, hb⟩

theorem cut_mt {ZA ZB : List Int} {lo lo' n m x y i j : Nat} (hn : lo + n ≤ ZA.length) (hm : lo' + m ≤ ZB.length) (hx : x ≤ n) (hy : y ≤ m) (hi : i < x) (hj : j < y) :
    mtL (cut ZA lo x) (cut ZB lo' y) i j = mtL (cut ZA lo n) (cut ZB lo' m) i j := by
  rw [mt_eq (by rw [cut_len (by omega)]; exact hi) (by rw [cut_len (by omega)]; exact hj), mt_eq (by rw [cut_len (by omega)]; omega) (by rw [cut_len (by omega)]; omega), cut_at hi, cut_at hj, cut_at (by omega), cut_at (by omega)]

/-- The distance over the stretches' first parts. -/
theorem dist_before {ZA ZB : List Int} {lo lo' n m x y : Nat} (hn : lo + n ≤ ZA.length) (hm : lo' + m ≤ ZB.length) (hx : x ≤ n) (hy : y ≤ m) :
    Ei (mtL (cut ZA lo x) (cut ZB lo' y)) (cut ZA lo x).length (cut ZB lo' y).length = Ei (mtL (cut ZA lo n) (cut ZB lo' m)) x y := by
  rw [cut_len (by omega), cut_len (by omega)]
  unfold Ei
  rw [Int.toNat_natCast, Int.toNat_natCast, T_congr x y fun i j hi hj => cut_mt hn hm hx hy hi hj]

/-- The distance over the stretches' last parts. -/
theorem dist_after {ZA ZB : List Int} {lo lo' n m x y : Nat} (hn : lo + n ≤ ZA.length) (hm : lo' + m ≤ ZB.length) (hx : x ≤ n) (hy : y ≤ m) :
    Ei (mtL (cut ZA (lo + x) (n - x)) (cut ZB (lo' + y) (m - y))) (cut ZA (lo + x) (n - x)).length (cut ZB (lo' + y) (m - y)).length =
      Ei (mtL (cut ZA lo n).reverse (cut ZB lo' m).reverse) (((cut ZA lo n).length : Int) - x) (((cut ZB lo' m).length : Int) - y) := by
  rw [mtL_reverse, cut_len (by omega), cut_len (by omega), cut_len hn, cut_len hm]
  have e1 : (n : Int) - x = ((n - x : Nat) : Int) := by omega
  have e2 : (m : Int) - y = ((m - y : Nat) : Int) := by omega
  rw [e1, e2]
  unfold Ei
  rw [Int.toNat_natCast, Int.toNat_natCast, ← T_rest n m (mtL (cut ZA lo n) (cut ZB lo' m)) x y hx hy]
  rw [T_congr (n - x) (m - y) fun i j hi hj => ?_]
  unfold shift
  rw [mt_eq (by rw [cut_len (by omega)]; exact hi) (by rw [cut_len (by omega)]; exact hj), mt_eq (by rw [cut_len (by omega)]; omega) (by rw [cut_len (by omega)]; omega), cut_at hi, cut_at hj, cut_at (by omega), cut_at (by omega),
    Nat.add_assoc, Nat.add_assoc]

end Go.Proofs.Qxb6617690a
