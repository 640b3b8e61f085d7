/- '(*keptSet).each' with the closure: a set that holds bits. -/
import Derived.Test.Qxb6616078aDoorClo
namespace Go.Proofs.Qxb6616078aDoor
open Go.RowKit Plain

theorem tab_later {w wr : World} {c : Nat} (hc : 0 < c) (h : TabAt 0 Lib.deBruijn64tab w) (hb : Below c w wr) : TabAt 0 Lib.deBruijn64tab wr :=
  fun j hj => (hb.cell (p := ⟨0, j, none⟩) hc).trans (h j hj)

theorem clear_low (y : Nat) (h0 : y ≠ 0) (hy : y < 18446744073709551616) : bits BinOp.and IntKind.u64 (y : Int) ((y : Int) - 1) = ((y &&& (y - 1) : Nat) : Int) := by
  have e : (y : Int) - 1 = ((y - 1 : Nat) : Int) := by omega
  rw [e, bits_and_u64_nat y (y - 1) hy (by omega)]

theorem wrap_pred (y : Nat) (h0 : y ≠ 0) (hy : y < 18446744073709551616) : IntKind.u64.wrap ((y : Int) - 1) = (y : Int) - 1 := by
  rw [IntKind.wrap_u64]
  omega

set_option maxHeartbeats 3200000 in
theorem each_packed (q c nw cb b : Nat) (F T : List Nat) (v : Value) (w : World) (hn : nw ≤ 1024)
    (h1 : w.cell? ⟨q, 1, none⟩ = some (.slice (some ⟨b, 0, none⟩) nw cb)) (hb : b < c) (hrow : w.heap[b]? = some (rowObj (words F) 27)) (hl : F.length = nw)
    (hF : ∀ j, F.getD j 0 < 18446744073709551616) (hT : allFrom 0 F = T) (hTl : T.length ≤ 65536) (hTab : TabAt 0 Lib.deBruijn64tab w) (hO : Out c w [] v) :
    Calls Tryd.prog 9 #[.pointer (some ⟨q, 0, none⟩), .func (.func 10) #[] #[.pointer (some ⟨c, 0, none⟩)]] w fun e w' => e = .returned (.tuple #[]) ∧ (∃ v', Out c w' T v') ∧ Below c w w' := by
  have hnil := fun W => Lib.run_eql_slice_nil (P := Tryd.prog) W 26 27 (some ⟨b, 0, none⟩) nw cb 0 0 Tryd.underlying26
  have HO := hide hO
  have Hl := hide hl
  have HT := hide (And.intro hT hTl)
  have HTab := hide hTab
  have Hrow := hide hrow
  have HF := hide hF
  clear hO hl hT hTl hTab hrow hF
  go_enter Tryd.func9, Tryd.ntmps9
  go_wp2
  go_loopg [31] nw (fun g s31 wr => ∃ k : Nat, s31 = .int .i64 k ∧ g + k = nw ∧ (∃ D v', Out c wr D v' ∧ D ++ allFrom k (F.drop k) = T) ∧ Below c w wr)
  case atStart => exact ⟨0, rfl, rfl, ⟨[], v, unhide HO, (unhide HT).1⟩, Below.refl _ _⟩
  case round =>
    obtain ⟨k, rfl, hg, ⟨D, v', hOk, hD⟩, hbel⟩ := hrel
    by_cases k1 : k < nw
    · have hx := (hbel.cell (p := ⟨b, k, none⟩) hb).trans (row_cell (unhide Hrow) k _ (words_at (F := F) (i := k) (by rw [unhide Hl]; exact k1)))
      rw [allFrom_drop F k (by rw [unhide Hl]; exact k1)] at hD
      have hy := unhide HF k
      obtain ⟨y, ey⟩ : ∃ y : Nat, y = F.getD k 0 := ⟨_, rfl⟩
      rw [← ey] at hx hD hy
      have hex : ∃ D v', Out c wr D v' ∧ D ++ ((lst y).map (fun i => k * 64 + i) ++ allFrom (k + 1) (F.drop (k + 1))) = T := ⟨D, v', hOk, hD⟩
      have Hk := hide (And.intro (And.intro hex hbel) hy)
      have Hg := hide hg
      obtain ⟨go, ego⟩ : ∃ go, go = gk := ⟨_, rfl⟩
      rw [← ego] at Hg
      clear hOk hD hbel hy hg ey hex
      go_wp2
      go_loopg [7] y (fun g s7 wi => s7 = .int .u64 g ∧ (∃ D v', Out c wi D v' ∧ D ++ ((lst g).map (fun i => k * 64 + i) ++ allFrom (k + 1) (F.drop (k + 1))) = T) ∧ Below c w wi ∧ g < 18446744073709551616)
      case atStart => exact ⟨rfl, (unhide Hk).1.1, (unhide Hk).1.2, (unhide Hk).2⟩
      case round =>
        obtain ⟨rfl, ⟨D, v', hOk, hD⟩, hbel, hy⟩ := hrel
        by_cases y0 : gk = 0
        · subst y0
          rw [lst_zero, List.map_nil, List.nil_append] at hD
          have hex : ∃ D v', Out c wr D v' ∧ D ++ allFrom (k + 1) (F.drop (k + 1)) = T := ⟨D, v', hOk, hD⟩
          have H2 := hide (And.intro hex hbel)
          clear hOk hD hbel hy hex
          go_wp2
          go_roundg (go - 1)
          case measure => have := unhide Hg; omega
          case rel => exact ⟨k + 1, by go_num, by have := unhide Hg; omega, (unhide H2).1, (unhide H2).2⟩
        · obtain ⟨hst, ht⟩ := lst_step gk y0 hy
          have htz := tz_any gk wr hy y0 (tab_later (c := c) (by omega) (unhide HTab) hbel)
          obtain ⟨t, et⟩ : ∃ t, t = Lib.ctz 64 gk := ⟨_, rfl⟩
          rw [← et] at htz hst ht
          rw [hst, List.map_cons] at hD
          have hlen : D.length < 65536 := by
            have e1 := congrArg List.length hD
            have e2 := (unhide HT).2
            simp only [List.length_append, List.length_cons] at e1
            omega
          have hcl := clo_any c (k * 64 + t) D v' wr hOk hlen
          rw [show ((k * 64 + t : Nat) : Int) = (k : Int) * 64 + (t : Int) from by omega] at hcl
          have hD' : (D ++ [k * 64 + t]) ++ ((lst (gk &&& (gk - 1))).map (fun i => k * 64 + i) ++ allFrom (k + 1) (F.drop (k + 1))) = T := by
            rw [← hD]; simp
          have hlow := and_pred_lt gk y0
          have hyy : ((gk : Int) != 0) = true := by simp; omega
          have hpos : 1 ≤ gk := by omega
          have Hc := hide hcl
          have Htz := hide htz
          have H2 := hide (And.intro hD' (And.intro hbel (And.intro hlow (And.intro (clear_low gk y0 hy) (wrap_pred gk y0 hy)))))
          clear hcl htz hD' hbel hlow hOk hD hst hlen et
          go_wp2_with fail
          refine (unhide Htz).mono ?_
          rintro e w2 ⟨rfl, hw2⟩
          subst hw2
          go_wp2_with fail
          refine (unhide Hc).mono ?_
          rintro e w2 ⟨rfl, ⟨v2, ho2⟩, hb2⟩
          have H3 := hide (And.intro ho2 ((unhide H2).2.1.trans hb2))
          clear ho2 hb2
          go_wp2_with fail
          go_roundg (gk &&& (gk - 1))
          case measure => exact (unhide H2).2.2.1
          case rel =>
            have e1 := (unhide H2).2.2.2.1
            have e2 := (unhide H2).2.2.2.2
            refine ⟨by first | rw [e1] | rw [e2, e1], ⟨_, v2, (unhide H3).1, (unhide H2).1⟩, (unhide H3).2, by have := (unhide H2).2.2.1; omega⟩
    · obtain rfl : k = nw := by omega
      rw [← unhide Hl, List.drop_length, allFrom, List.append_nil] at hD
      subst hD
      have H2 := hide (And.intro hOk hbel)
      clear hg hOk hbel
      go_wp2
      first | go_end0 | (simp only [Exit.inBlock, Exit.then]; refine bodyPost_ret (results_none rfl _ _ _) rfl ?_) | refine bodyPost_ret (results_none rfl _ _ _) rfl ?_
      exact ⟨rfl, ⟨_, (unhide H2).1⟩, (unhide H2).2⟩

end Go.Proofs.Qxb6616078aDoor
