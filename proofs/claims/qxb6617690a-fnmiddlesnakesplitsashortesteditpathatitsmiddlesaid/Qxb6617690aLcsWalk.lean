import Derived.Test.Qxb6617690aFacts
import Derived.Deep.Light
import Derived.WalkSmall
import Derived.Deep.LoopGhost
namespace Go.Proofs.Qxb6617690a
open Go.RowKit Plain

/-- A row of the table. -/
def rowT (mt : Nat → Nat → Bool) (r m : Nat) : List Int := (List.range (m + 1)).map fun j => (T mt r j : Int)

theorem rowT_len (mt : Nat → Nat → Bool) (r m : Nat) : (rowT mt r m).length = m + 1 := by simp [rowT]
theorem rowT_at (mt : Nat → Nat → Bool) (r m j : Nat) (h : j ≤ m) : (rowT mt r m).getD j 0 = T mt r j := by
  unfold rowT
  rw [List.getD_eq_getElem?_getD, List.getElem?_map, List.getElem?_range (by omega)]
  rfl
theorem rowT_zero (mt : Nat → Nat → Bool) (m : Nat) : rowT mt 0 m = List.replicate (m + 1) 0 := by
  unfold rowT
  apply List.ext_getElem
  · simp
  · intro i _ _
    simp [T_zero]

/-- The first j entries of C are those of row r. -/
def Upto (mt : Nat → Nat → Bool) (r m j : Nat) (C : List Int) : Prop := C.length = m + 1 ∧ ∀ t, t < j → C.getD t 0 = T mt r t

theorem upto_all {mt : Nat → Nat → Bool} {r m : Nat} {C : List Int} (h : Upto mt r m (m + 1) C) : C = rowT mt r m := by
  apply List.ext_getElem
  · rw [h.1, rowT_len]
  · intro i h1 h2
    have a := h.2 i (by rw [h.1] at h1; exact h1)
    have b := rowT_at mt r m i (by rw [h.1] at h1; omega)
    rw [List.getD_eq_getElem?_getD, List.getElem?_eq_getElem h1] at a
    rw [List.getD_eq_getElem?_getD, List.getElem?_eq_getElem h2] at b
    simp at a b
    rw [a, b]

theorem upto_set {mt : Nat → Nat → Bool} {r m j : Nat} {C : List Int} (h : Upto mt r m j C) (hj : j ≤ m) (x : Int) (hx : x = T mt r j) : Upto mt r m (j + 1) (C.set j x) := by
  refine ⟨by rw [List.length_set]; exact h.1, fun t ht => ?_⟩
  by_cases e : t = j
  · subst e
    rw [List.getD_eq_getElem?_getD, List.getElem?_set_self (by rw [h.1]; omega)]
    exact hx
  · rw [List.getD_eq_getElem?_getD, List.getElem?_set_ne (by omega), ← List.getD_eq_getElem?_getD]
    exact h.2 t (by omega)

/-- While the table is filled: p holds row r, q is being filled. -/
structure Lc (w : World) (mt : Nat → Nat → Bool) (r m j p q : Nat) (wr : World) : Prop where
  row : wr.heap[p]? = some (ints (rowT mt r m))
  cur : ∃ C, wr.heap[q]? = some (ints C) ∧ Upto mt (r + 1) m j C
  ne : p ≠ q
  lp : w.heap.size ≤ p
  lq : w.heap.size ≤ q
  bel : Below w.heap.size w wr

theorem Lc.put {w : World} {mt : Nat → Nat → Bool} {r m j p q : Nat} {wr : World} (h : Lc w mt r m j p q wr) (hj : j ≤ m) (x : Int) (hx : x = T mt (r + 1) j) (n : Nat) : Lc w mt r m (j + 1) p q ((wr.drewN n).setCell ⟨q, j, none⟩ (.int .i64 x)) := by
  obtain ⟨C, hC, hU⟩ := h.cur
  refine ⟨?_, ⟨_, ints_set (w := wr.drewN n) hC j x, upto_set hU hj x hx⟩, h.ne, h.lp, h.lq, (below_drewN h.bel n).setCell h.lq _⟩
  rw [Below.heap_setCell _ _ _ _ h.ne]
  exact h.row

theorem Lc.at {w : World} {mt : Nat → Nat → Bool} {r m j p q : Nat} {wr : World} (h : Lc w mt r m j p q wr) (t : Nat) (ht : t < j) (hm : t ≤ m) : wr.cell? ⟨q, t, none⟩ = some (.int .i64 (T mt (r + 1) t)) := by
  obtain ⟨C, hC, hU⟩ := h.cur
  rw [← hU.2 t ht]
  exact ints_cell hC t (by rw [hU.1]; omega)

theorem Lc.there {w : World} {mt : Nat → Nat → Bool} {r m j p q : Nat} {wr : World} (h : Lc w mt r m j p q wr) (t : Nat) (hm : t ≤ m) : ∃ x, wr.cell? ⟨q, t, none⟩ = some (.int .i64 x) := by
  obtain ⟨C, hC, hU⟩ := h.cur
  exact ⟨_, ints_cell hC t (by rw [hU.1]; omega)⟩

theorem Lc.free {w : World} {mt : Nat → Nat → Bool} {r m j p q : Nat} {wr : World} (h : Lc w mt r m j p q wr) (t : Nat) : wr.frozen? ⟨q, t, none⟩ = false := by
  obtain ⟨C, hC, hU⟩ := h.cur
  exact ints_free hC t

theorem Lc.up {w : World} {mt : Nat → Nat → Bool} {r m j p q : Nat} {wr : World} (h : Lc w mt r m j p q wr) (t : Nat) (hm : t ≤ m) : wr.cell? ⟨p, t, none⟩ = some (.int .i64 (T mt r t)) := by
  rw [← rowT_at mt r m t hm]
  exact ints_cell h.row t (by rw [rowT_len]; omega)

/-- A row is full: the two blocks change places. -/
theorem Lc.swap {w : World} {mt : Nat → Nat → Bool} {r m p q : Nat} {wr : World} (h : Lc w mt r m (m + 1) p q wr) : Lc w mt (r + 1) m 0 q p wr := by
  obtain ⟨C, hC, hU⟩ := h.cur
  rw [upto_all hU] at hC
  exact ⟨hC, ⟨_, h.row, by rw [rowT_len], fun t ht => by omega⟩, h.ne.symm, h.lq, h.lp, h.bel⟩

theorem lcs_start (w : World) (mt : Nat → Nat → Bool) (m : Nat) :
    Lc w mt 0 m 0 w.heap.size (w.heap.size + 1) ((w.alloc (rowObj (List.replicate (m + 1) (.int .i64 0)) 3)).alloc (rowObj (List.replicate (m + 1) (.int .i64 0)) 3)) := by
  have e : rowObj (List.replicate (m + 1) (.int .i64 0)) 3 = ints (List.replicate (m + 1) 0) := by simp [rowObj, ints]
  have sz : (w.alloc (rowObj (List.replicate (m + 1) (.int .i64 0)) 3)).heap.size = w.heap.size + 1 := by simp
  refine ⟨?_, ⟨List.replicate (m + 1) 0, ?_, by simp, fun t ht => by omega⟩, by omega, Nat.le_refl _, by omega, ((Below.refl _ _).alloc (Nat.le_refl _) _).alloc (by omega) _⟩
  · rw [Below.heap_alloc _ _ _ (by omega), heap_alloc_new, rowT_zero, e]
  · have := heap_alloc_new (w.alloc (rowObj (List.replicate (m + 1) (.int .i64 0)) 3)) (rowObj (List.replicate (m + 1) (.int .i64 0)) 3)
    rw [sz] at this
    rw [this, e]

theorem mt_eq {A B : List Int} {i j : Nat} (hi : i < A.length) (hj : j < B.length) : mtL A B i j = (A.getD i 0 == B.getD j 0) := by
  unfold mtL
  simp only [hi, hj, decide_true, Bool.true_and]

set_option maxHeartbeats 4000000 in
theorem lcs_any (w : World) (A B : List Int) (lo hi lo' hi' n0 n1 ca cb ba pa bb pb : Nat) (oa ob : Option Addr) (SA : Stretch w A lo n0 oa ba pa) (SB : Stretch w B lo' n1 ob bb pb)
    (h1 : hi = lo + A.length) (h2 : hi' = lo' + B.length) (k0 : n0 ≤ 4096) (k1 : n1 ≤ 4096) (hs : (oa = some ⟨ba, pa, none⟩ ∧ ob = some ⟨bb, pb, none⟩) ∨ A.length = 0 ∨ B.length = 0) :
    Calls Try.prog 12 #[.slice oa n0 ca, .int .i64 lo, .int .i64 hi, .slice ob n1 cb, .int .i64 lo', .int .i64 hi'] w fun e w' => e = .returned (.int .i64 (T (mtL A B) A.length B.length)) ∧ Below w.heap.size w w' := by
  obtain ⟨m, hm⟩ : ∃ m, m = B.length := ⟨_, rfl⟩
  have hmk := fun W => make22 (m + 1) (by have := SB.fit; omega) W
  rw [show ((m + 1 : Nat) : Int) = (m : Int) + 1 from by omega] at hmk
  have em : (hi' : Int) - lo' = m := by omega
  have HSA := hide SA
  have HSB := hide SB
  have Hs := hide (lcs_start w (mtL A B) m)
  have f1 := SA.fit
  have f2 := SB.fit
  have g1 : hi ≤ lo + A.length := by omega
  have g2 : lo + A.length ≤ hi := by omega
  have g3 : m ≤ B.length := by omega
  have g4 : B.length ≤ m := by omega
  have HM := hide hm
  have H1 := hide h1
  clear SA SB h1 h2 hm
  rcases hs with ⟨rfl, rfl⟩ | hz | hz
  all_goals
    go_enter Try.func12, Try.ntmps12
    go_wp2
    go_loopg [14, 15, 16] A.length (fun g s14 s15 s16 wr => ∃ r i p q : Nat, s14 = .slice (some ⟨p, 0, none⟩) (m + 1) (m + 1) ∧ s15 = .slice (some ⟨q, 0, none⟩) (m + 1) (m + 1) ∧ s16 = .int .i64 i ∧ i = lo + r ∧ g + r = A.length ∧ Lc w (mtL A B) r m 0 p q wr)
    case atStart => exact ⟨0, lo, _, _, rfl, rfl, rfl, rfl, Nat.add_zero _, unhide Hs⟩
  all_goals
    obtain ⟨r, i, p, q, rfl, rfl, rfl, hi1, hg, L⟩ := hrel
    obtain ⟨go, hgo⟩ : ∃ go, gk = go := ⟨_, rfl⟩
    rw [hgo] at hg
    have Hgo := hide hgo
    have Hi := hide hi1
    have Hg := hide hg
    have HL := hide L
    have y1 : lo ≤ i := by omega
    have y2 : i ≤ hi := by omega
    have ne1 := L.ne
    have ne2 := L.ne.symm
    obtain ⟨x0, hx0⟩ := L.there 0 (by omega)
    have hf0 := L.free 0
    have HL1 := hide (L.put (Nat.zero_le _) 0 (by rw [T_col]; rfl) 0)
    have cend := L.up m (Nat.le_refl _)
    obtain ⟨xe, exe⟩ : ∃ x : Int, x = (T (mtL A B) r m : Int) := ⟨_, rfl⟩
    rw [← exe] at cend
    have Hxe := hide exe
    clear hi1 hg L exe hgo
    by_cases c : i < hi
  all_goals first | (exfalso; omega) | skip
  · clear cend
    go_wp2
    go_loopg [17] m (fun g s17 wz => ∃ j : Nat, s17 = .int .i64 j ∧ g + j = m + 1 ∧ 1 ≤ j ∧ Lc w (mtL A B) r m j p q wz)
    case atStart => exact ⟨1, rfl, rfl, Nat.le_refl _, unhide HL1⟩
    case round =>
      obtain ⟨j, rfl, hgj, hj1, L2⟩ := hrel
      have Hgj := hide hgj
      have HL2 := hide L2
      by_cases c2 : j ≤ m
      · have ti := unhide Hi
        have tg := unhide Hg
        have tA : r < A.length := by omega
        have tB : j - 1 < B.length := by omega
        obtain ⟨va, hva⟩ : ∃ v, v = A.getD r 0 := ⟨_, rfl⟩
        obtain ⟨vb, hvb⟩ : ∃ v, v = B.getD (j - 1) 0 := ⟨_, rfl⟩
        have ga := (L2.bel.cell (p := ⟨ba, pa + (lo + r), none⟩) ((unhide HSA).addr (by omega)).2).trans ((unhide HSA).cells r tA)
        have gb := (L2.bel.cell (p := ⟨bb, pb + (lo' + (j - 1)), none⟩) ((unhide HSB).addr (by omega)).2).trans ((unhide HSB).cells (j - 1) tB)
        rw [← hva, show lo + r = i from by omega] at ga
        rw [← hvb, show lo' + (j - 1) = lo' + j - 1 from by omega] at gb
        obtain ⟨x1, hx1⟩ : ∃ x : Int, x = (T (mtL A B) r (j - 1) : Int) := ⟨_, rfl⟩
        obtain ⟨x2, hx2⟩ : ∃ x : Int, x = (T (mtL A B) r j : Int) := ⟨_, rfl⟩
        obtain ⟨x3, hx3⟩ : ∃ x : Int, x = (T (mtL A B) (r + 1) (j - 1) : Int) := ⟨_, rfl⟩
        have q1 := L2.up (j - 1) (by omega)
        have q2 := L2.up j c2
        have q3 := L2.at (j - 1) (by omega) (by omega)
        rw [← hx1] at q1
        rw [← hx2] at q2
        rw [← hx3] at q3
        obtain ⟨x4, q4⟩ := L2.there j c2
        have q5 := L2.free j
        have b1 : 0 ≤ x1 ∧ x1 ≤ 4096 := by have := T_le_right (mtL A B) r (j - 1); omega
        have b2 : 0 ≤ x2 ∧ x2 ≤ 4096 := by have := T_le_right (mtL A B) r j; omega
        have b3 : 0 ≤ x3 ∧ x3 ≤ 4096 := by have := T_le_right (mtL A B) (r + 1) (j - 1); omega
        have tt : (T (mtL A B) (r + 1) j : Int) = if va = vb then x1 + 1 else max x2 x3 := by
          have e := T_succ (mtL A B) r (j - 1)
          rw [show j - 1 + 1 = j from by omega, mt_eq tA tB, ← hva, ← hvb] at e
          rw [e]
          by_cases c : va = vb
          · rw [if_pos c, if_pos (by simpa using c)]; omega
          · rw [if_neg c, if_neg (by simpa using c)]; omega
        have i1 : (i : Int) < n0 := by omega
        have i2 : (lo' : Int) + j - 1 < n1 := by omega
        have i3 : 0 ≤ (lo' : Int) + j - 1 := by omega
        have c2' : (j : Int) ≤ m := by omega
        have Tt := hide tt
        clear ti tg tA tB hva hvb hx1 hx2 hx3 L2 hgj tt
        by_cases e : va = vb
        · have be : (va == vb) = true := by simp [e]
          have HP := fun n => (unhide HL2).put c2 (x1 + 1) (by rw [unhide Tt, if_pos e]) n
          have HPh := hide HP
          clear e HP
          go_wp2_with fail
          go_quiet (fail)
          go_wp2
          go_roundg (gk - 1)
          case measure => go_light; have := unhide Hgj; omega
          case rel => go_light; exact ⟨j + 1, by go_num, by have := unhide Hgj; omega, by omega, unhide HPh _⟩
        · have be : (va == vb) = false := by simp [e]
          by_cases e2 : x3 ≤ x2
          · have HP := fun n => (unhide HL2).put c2 x2 (by rw [unhide Tt, if_neg e]; omega) n
            have HPh := hide HP
            clear e HP
            go_wp2_with fail
            go_quiet (fail)
            go_wp2_with fail
            go_quiet (fail)
            go_wp2
            go_roundg (gk - 1)
            case measure => go_light; have := unhide Hgj; omega
            case rel => go_light; exact ⟨j + 1, by go_num, by have := unhide Hgj; omega, by omega, unhide HPh _⟩
          · have HP := fun n => (unhide HL2).put c2 x3 (by rw [unhide Tt, if_neg e]; omega) n
            have HPh := hide HP
            clear e HP
            go_wp2_with fail
            go_quiet (fail)
            go_wp2_with fail
            go_quiet (fail)
            go_wp2
            go_roundg (gk - 1)
            case measure => go_light; have := unhide Hgj; omega
            case rel => go_light; exact ⟨j + 1, by go_num, by have := unhide Hgj; omega, by omega, unhide HPh _⟩
      · have L3 := L2
        obtain rfl : j = m + 1 := by omega
        have HSw := hide L3.swap
        clear L2 L3 hgj
        go_wp2_with fail
        go_roundg (go - 1)
        case measure => go_light; rw [unhide Hgo]; have := unhide Hg; have := unhide Hi; omega
        case rel => go_light; exact ⟨r + 1, i + 1, q, p, rfl, rfl, by go_num, by have := unhide Hi; omega, by have := unhide Hg; have := unhide Hi; omega, unhide HSw⟩
  · have er : r = A.length := by have := unhide Hi; have := unhide Hg; have := unhide H1; omega
    have HE := hide er
    clear er
    go_wp2
    go_ret
    refine ⟨?_, (unhide HL).bel⟩
    rw [← unhide HE, ← unhide HM, ← unhide Hxe]
    rfl
  · have er : r = A.length := by have := unhide Hi; have := unhide Hg; have := unhide H1; omega
    have HE := hide er
    clear er
    go_wp2
    go_ret
    refine ⟨?_, (unhide HL).bel⟩
    rw [← unhide HE, ← unhide HM, ← unhide Hxe]
    rfl
  · clear cend
    go_wp2
    go_loopg [17] m (fun g s17 wz => ∃ j : Nat, s17 = .int .i64 j ∧ g + j = m + 1 ∧ 1 ≤ j ∧ Lc w (mtL A B) r m j p q wz)
    case atStart => exact ⟨1, rfl, rfl, Nat.le_refl _, unhide HL1⟩
    case round =>
      obtain ⟨j, rfl, hgj, hj1, L2⟩ := hrel
      have Hgj := hide hgj
      have HL2 := hide L2
      by_cases c2 : j ≤ m
      · exfalso; omega
      · have L3 := L2
        obtain rfl : j = m + 1 := by omega
        have HSw := hide L3.swap
        clear L2 L3 hgj
        go_wp2_with fail
        go_roundg (go - 1)
        case measure => go_light; rw [unhide Hgo]; have := unhide Hg; have := unhide Hi; omega
        case rel => go_light; exact ⟨r + 1, i + 1, q, p, rfl, rfl, by go_num, by have := unhide Hi; omega, by have := unhide Hg; have := unhide Hi; omega, unhide HSw⟩
  · have er : r = A.length := by have := unhide Hi; have := unhide Hg; have := unhide H1; omega
    have HE := hide er
    clear er
    go_wp2
    go_ret
    refine ⟨?_, (unhide HL).bel⟩
    rw [← unhide HE, ← unhide HM, ← unhide Hxe]
    rfl

end Go.Proofs.Qxb6617690a
