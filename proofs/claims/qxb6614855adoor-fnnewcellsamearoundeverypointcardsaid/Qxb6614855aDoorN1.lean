/- newCell's inner loop: one corner's dimensions. -/
import Derived.Test.Qxb6614855aDoorPlain
import Derived.Test.Qxb6614855aDoorWith
namespace Go.Proofs.Qxb6614855aDoor
open Go.RowKit

theorem sf (a : Addr) (b : Nat) (m : Mode) (W : World) : (store a (.float .f64 b) m).run Tryd.prog W = stored Tryd.prog W a (.float .f64 b) m := run_store Tryd.prog W a _ m rfl

/-- Behind the first store of a round. -/
theorem round_a {w0 wr : World} {k j bz : Nat} (c : j < 4) (h : wr.heap[bz]? = some (rowObj (vpart k j) 58) ∧ Below bz w0 wr ∧ bz < wr.heap.size) (x : Value) :
    (wr.setCell ⟨bz, j, none⟩ x).heap[bz]? = some (rowObj ((vpart k j).set j x) 58) ∧ Below bz w0 (wr.setCell ⟨bz, j, none⟩ x) ∧ bz < (wr.setCell ⟨bz, j, none⟩ x).heap.size ∧
    (wr.setCell ⟨bz, j, none⟩ x).cell? ⟨bz, 4, none⟩ = some (.int .u32 (maskTo k j : Nat)) ∧ (wr.setCell ⟨bz, j, none⟩ x).cell? ⟨bz, 5, none⟩ = some (.int .u32 0) ∧ (wr.setCell ⟨bz, j, none⟩ x).cell? ⟨bz, 6, none⟩ = some (.int .u32 0) := by
  have hr := row_set h.1 j x
  have e : ∀ i v, 4 ≤ i → (vpart k j)[i]? = some v → ((vpart k j).set j x)[i]? = some v := fun i v hi hv => by rw [List.getElem?_set_ne (by omega)]; exact hv
  exact ⟨hr, h.2.1.setCell (Nat.le_refl _) _, by simpa [World.setCell] using h.2.2, row_cell hr 4 _ (e 4 _ (by omega) rfl), row_cell hr 5 _ (e 5 _ (by omega) rfl), row_cell hr 6 _ (e 6 _ (by omega) rfl)⟩

/-- Behind the store of the bounds. -/
theorem round_b {w0 W2 : World} {bz : Nat} {cs : List Value} (h : W2.heap[bz]? = some (rowObj cs 58) ∧ Below bz w0 W2 ∧ bz < W2.heap.size) (x : Value) :
    (((W2.setCell ⟨bz, 4, none⟩ x).setCell ⟨bz, 5, none⟩ (.int .u32 0)).setCell ⟨bz, 6, none⟩ (.int .u32 0)).heap[bz]? = some (rowObj (((cs.set 4 x).set 5 (.int .u32 0)).set 6 (.int .u32 0)) 58) ∧
    Below bz w0 (((W2.setCell ⟨bz, 4, none⟩ x).setCell ⟨bz, 5, none⟩ (.int .u32 0)).setCell ⟨bz, 6, none⟩ (.int .u32 0)) ∧
    bz < (((W2.setCell ⟨bz, 4, none⟩ x).setCell ⟨bz, 5, none⟩ (.int .u32 0)).setCell ⟨bz, 6, none⟩ (.int .u32 0)).heap.size :=
  ⟨row_set (row_set (row_set h.1 4 x) 5 _) 6 _, ((h.2.1.setCell (Nat.le_refl _) _).setCell (Nat.le_refl _) _).setCell (Nat.le_refl _) _, by simpa [World.setCell] using h.2.2⟩

set_option maxRecDepth 100000 in
set_option maxHeartbeats 2000000 in
theorem dims {K : Act → World → Prop} {Q : Exit → Act → World → Prop} {v0 v1 v2 v3 v6 v7 v8 v9 v10 v11 v12 v13 v15 v16 v17 v18 v19 v20 v21 v22 v23 v24 v25 v26 v27 v28 v29 v30 v31 v32 v33 v34 v35 v36 v37 v38 v39 v40 v41 v42 v43 v44 v45 v46 v47 v48 v49 v50 v51 v52 v53 v54 v55 v56 v57 v58 : Value} {w0 : World} {k bz : Nat} (hk : k < 16)
    (hrow : w0.heap[bz]? = some (rowObj (vpart k 0) 58)) (hlt : bz < w0.heap.size)
    (hK : ∀ (u6 u7 u15 u16 u17 u18 u19 u20 u21 u22 u23 u24 u25 u26 u27 u28 u29 u30 u31 u32 u33 u34 u35 u36 u37 u38 u39 u40 u41 u42 u43 u44 u45 : Value) (wx : World), (wx.heap[bz]? = some (rowObj (vpart k 4) 58) ∧ Below bz w0 wx ∧ bz < wx.heap.size) → K ⟨#[v0, v1, v2, v3, .int .i64 k, .pointer (some ⟨bz, 0, none⟩), u6, u7, v8, v9, v10, v11, v12, v13, .int .i64 4, u15, u16, u17, u18, u19, u20, u21, u22, u23, u24, u25, u26, u27, u28, u29, u30, u31, u32, u33, u34, u35, u36, u37, u38, u39, u40, u41, u42, u43, u44, u45, v46, v47, v48, v49, v50, v51, v52, v53, v54, v55, v56, v57, v58], []⟩ wx) :
    Code.wp Tryd.prog (sub [1, 1, 0, 1, 2, 3, 1, 1, 0, 2, 1, 1, 0, 1] (Tryd.f26.body.getD .skip)) (Exit.then K Q) ⟨#[v0, v1, v2, v3, .int .i64 k, .pointer (some ⟨bz, 0, none⟩), v6, v7, v8, v9, v10, v11, v12, v13, .int .i64 0, v15, v16, v17, v18, v19, v20, v21, v22, v23, v24, v25, v26, v27, v28, v29, v30, v31, v32, v33, v34, v35, v36, v37, v38, v39, v40, v41, v42, v43, v44, v45, v46, v47, v48, v49, v50, v51, v52, v53, v54, v55, v56, v57, v58], []⟩ w0 := by
  have Hrow := hide hrow
  clear hrow
  conv => arg 2; whnf
  go_wp2
  go_loopg [14] 4 (fun g s14 wr => ∃ j : Nat, s14 = .int .i64 j ∧ g + j = 4 ∧ wr.heap[bz]? = some (rowObj (vpart k j) 58) ∧ Below bz w0 wr ∧ bz < wr.heap.size)
  case atStart => exact ⟨0, rfl, rfl, unhide Hrow, Below.refl _ _, hlt⟩
  case round =>
    obtain ⟨j, rfl, hg, hr, hb, hl⟩ := hrel
    by_cases c : j < 4
    · have ha := and_one ⟨k, hk⟩ ⟨j, c⟩
      have hx := xor_i64 ⟨k, hk⟩ ⟨j, c⟩
      have hx16 := xor_lt ⟨k, hk⟩ ⟨j, c⟩
      dsimp only at ha hx hx16
      have hstep := vpart_step k j c
      have hmlt := maskTo_lt k j (by omega)
      have hcell : ∃ v, wr.cell? ⟨bz, j, none⟩ = some v := ⟨_, row_cell hr j _ (List.getElem?_eq_getElem (by show j < 12; omega))⟩
      obtain ⟨v0, hcell⟩ := hcell
      have hfree := row_free hr j
      have Hg := hide hg
      have Hb := hide (And.intro hr (And.intro hb hl))
      have Hs := hide hstep
      clear hg hr hb hl hstep
      cases hbit : k.testBit j with
      | false =>
        have hside : sideOf k j = 0 := by unfold sideOf; rw [hbit]; rfl
        rw [hside] at ha
        have hst := unhide Hs
        rw [hside, hbit] at hst
        have Hst := hide hst
        clear hst
        have hsf := sf
        have hm := fun W => run_float_arith (P := Tryd.prog) W .mul 27 .f64 _ _ _ fm0
        go_upto_region 11 with fail
        have A := round_a c (unhide Hb) (.float .f64 (fb false))
        obtain ⟨W1, eW1⟩ : ∃ W1, W1 = wr.setCell ⟨bz, j, none⟩ (.float .f64 (fb false)) := ⟨_, rfl⟩
        rw [← eW1] at A ⊢
        obtain ⟨a1, a2, a3, a4, a5, a6⟩ := A
        have hcw := with_any (maskTo k j) (2 * j + 0) hmlt (by omega) W1
        rw [show ((2 * j + 0 : Nat) : Int) = 2 * (j : Int) from by omega] at hcw
        have Hc := hide hcw
        have H1 := hide (And.intro a1 (And.intro a2 a3))
        clear hcw a1 a2 a3 eW1 hcell hfree
        go_wp2_with fail
        refine (unhide Hc).mono ?_
        rintro e W2 ⟨rfl, hb2⟩
        have r2 : W2.heap[bz]? = _ := (hb2.block bz (unhide H1).2.2).trans (unhide H1).1
        have b4 := row_cell r2 4 _ ((List.getElem?_set_ne (by omega)).trans (rfl : (vpart k j)[4]? = some (.int .u32 (maskTo k j : Nat))))
        have b5 := row_cell r2 5 _ ((List.getElem?_set_ne (by omega)).trans (rfl : (vpart k j)[5]? = some (.int .u32 0)))
        have b6 := row_cell r2 6 _ ((List.getElem?_set_ne (by omega)).trans (rfl : (vpart k j)[6]? = some (.int .u32 0)))
        have g4 := row_free r2 4
        have g5 := row_free r2 5
        have g6 := row_free r2 6
        have H2 := hide (And.intro r2 (And.intro ((unhide H1).2.1.trans (hb2.mono (Nat.le_of_lt (unhide H1).2.2))) (Nat.lt_of_lt_of_le (unhide H1).2.2 hb2.size)))
        clear r2 hb2 Hc a4 a5 a6
        go_upto_region 12 with fail
        have B := round_b (unhide H2) (.int .u32 (maskTo k j ||| 2 ^ (2 * j + 0) : Nat))
        obtain ⟨W3, eW3⟩ : ∃ W3, W3 = ((W2.setCell ⟨bz, 4, none⟩ (.int .u32 (maskTo k j ||| 2 ^ (2 * j + 0) : Nat))).setCell ⟨bz, 5, none⟩ (.int .u32 0)).setCell ⟨bz, 6, none⟩ (.int .u32 0) := ⟨_, rfl⟩
        rw [← eW3] at B
        simp only [Nat.add_zero] at eW3
        rw [← eW3]
        have c8 : ∃ v, W3.cell? ⟨bz, 8 + j, none⟩ = some v := ⟨_, row_cell B.1 (8 + j) _ (List.getElem?_eq_getElem (by simp [vpart]; omega))⟩
        obtain ⟨v8', c8⟩ := c8
        have f8 := row_free B.1 (8 + j)
        have hS := row_set B.1 (8 + j) (.int .i16 (k ^^^ 2 ^ j : Nat))
        rw [unhide Hst] at hS
        have H3 := hide (And.intro hS (And.intro B.2.1 B.2.2))
        clear B hS eW3 b4 b5 b6 g4 g5 g6
        obtain ⟨y, ey⟩ : ∃ y : Nat, y = k ^^^ 2 ^ j := ⟨_, rfl⟩
        rw [← ey] at H3 hx
        have Hx := hide hx
        clear ey hx hx16
        go_wp2
        go_roundg (gk - 1)
        case measure => have := unhide Hg; omega
        case rel =>
          rw [unhide Hx]
          exact ⟨j + 1, by go_num, by have := unhide Hg; omega, (unhide H3).1, (unhide H3).2.1.setCell (Nat.le_refl _) _, by simpa [World.setCell] using (unhide H3).2.2⟩
      | true =>
        have hside : sideOf k j = 1 := by unfold sideOf; rw [hbit]; rfl
        rw [hside] at ha
        have hst := unhide Hs
        rw [hside, hbit] at hst
        have Hst := hide hst
        clear hst
        have hsf := sf
        have hm := fun W => run_float_arith (P := Tryd.prog) W .mul 27 .f64 _ _ _ fm1
        go_upto_region 11 with fail
        have A := round_a c (unhide Hb) (.float .f64 (fb true))
        obtain ⟨W1, eW1⟩ : ∃ W1, W1 = wr.setCell ⟨bz, j, none⟩ (.float .f64 (fb true)) := ⟨_, rfl⟩
        rw [← eW1] at A ⊢
        obtain ⟨a1, a2, a3, a4, a5, a6⟩ := A
        have hcw := with_any (maskTo k j) (2 * j + 1) hmlt (by omega) W1
        rw [show ((2 * j + 1 : Nat) : Int) = 2 * (j : Int) + 1 from by omega] at hcw
        have Hc := hide hcw
        have H1 := hide (And.intro a1 (And.intro a2 a3))
        clear hcw a1 a2 a3 eW1 hcell hfree
        go_wp2_with fail
        refine (unhide Hc).mono ?_
        rintro e W2 ⟨rfl, hb2⟩
        have r2 : W2.heap[bz]? = _ := (hb2.block bz (unhide H1).2.2).trans (unhide H1).1
        have b4 := row_cell r2 4 _ ((List.getElem?_set_ne (by omega)).trans (rfl : (vpart k j)[4]? = some (.int .u32 (maskTo k j : Nat))))
        have b5 := row_cell r2 5 _ ((List.getElem?_set_ne (by omega)).trans (rfl : (vpart k j)[5]? = some (.int .u32 0)))
        have b6 := row_cell r2 6 _ ((List.getElem?_set_ne (by omega)).trans (rfl : (vpart k j)[6]? = some (.int .u32 0)))
        have g4 := row_free r2 4
        have g5 := row_free r2 5
        have g6 := row_free r2 6
        have H2 := hide (And.intro r2 (And.intro ((unhide H1).2.1.trans (hb2.mono (Nat.le_of_lt (unhide H1).2.2))) (Nat.lt_of_lt_of_le (unhide H1).2.2 hb2.size)))
        clear r2 hb2 Hc a4 a5 a6
        go_upto_region 12 with fail
        have B := round_b (unhide H2) (.int .u32 (maskTo k j ||| 2 ^ (2 * j + 1) : Nat))
        obtain ⟨W3, eW3⟩ : ∃ W3, W3 = ((W2.setCell ⟨bz, 4, none⟩ (.int .u32 (maskTo k j ||| 2 ^ (2 * j + 1) : Nat))).setCell ⟨bz, 5, none⟩ (.int .u32 0)).setCell ⟨bz, 6, none⟩ (.int .u32 0) := ⟨_, rfl⟩
        rw [← eW3] at B
        rw [← eW3]
        have c8 : ∃ v, W3.cell? ⟨bz, 8 + j, none⟩ = some v := ⟨_, row_cell B.1 (8 + j) _ (List.getElem?_eq_getElem (by simp [vpart]; omega))⟩
        obtain ⟨v8', c8⟩ := c8
        have f8 := row_free B.1 (8 + j)
        have hS := row_set B.1 (8 + j) (.int .i16 (k ^^^ 2 ^ j : Nat))
        rw [unhide Hst] at hS
        have H3 := hide (And.intro hS (And.intro B.2.1 B.2.2))
        clear B hS eW3 b4 b5 b6 g4 g5 g6
        obtain ⟨y, ey⟩ : ∃ y : Nat, y = k ^^^ 2 ^ j := ⟨_, rfl⟩
        rw [← ey] at H3 hx
        have Hx := hide hx
        clear ey hx hx16
        go_wp2
        go_roundg (gk - 1)
        case measure => have := unhide Hg; omega
        case rel =>
          rw [unhide Hx]
          exact ⟨j + 1, by go_num, by have := unhide Hg; omega, (unhide H3).1, (unhide H3).2.1.setCell (Nat.le_refl _) _, by simpa [World.setCell] using (unhide H3).2.2⟩
    · obtain rfl : j = 4 := by omega
      have H2 := hide (And.intro hr (And.intro hb hl))
      clear hg hr hb hl
      go_wp2
      exact unhide H2

end Go.Proofs.Qxb6614855aDoor
