/- newCell's outer loop: the corners. -/
import Derived.Test.Qxb6614855aDoorN1
import Derived.Great.BuildSlice
namespace Go.Proofs.Qxb6614855aDoor
open Go.RowKit

/-- What was there is as it was, but for block b. -/
structure Keep (b : Nat) (w0 w : World) : Prop where
  os : w.os = w0.os
  tape : w.tape = w0.tape
  output : w.output = w0.output
  size : w0.heap.size ≤ w.heap.size
  block : ∀ i, i < w0.heap.size → i ≠ b → w.heap[i]? = w0.heap[i]?

theorem Keep.refl (b : Nat) (w : World) : Keep b w w := ⟨rfl, rfl, rfl, Nat.le_refl _, fun _ _ _ => rfl⟩
theorem Keep.below {b : Nat} {w0 w w' : World} (h : Keep b w0 w) (hb : Below w0.heap.size w w') : Keep b w0 w' :=
  ⟨hb.os.trans h.os, hb.tape.trans h.tape, hb.output.trans h.output, Nat.le_trans h.size hb.size, fun i hi hne => (hb.block i hi).trans (h.block i hi hne)⟩
theorem Keep.set {b : Nat} {w0 w : World} (h : Keep b w0 w) (o : Nat) (x : Value) : Keep b w0 (w.setCell ⟨b, o, none⟩ x) :=
  ⟨h.os, h.tape, h.output, by simpa [World.setCell] using h.size, fun i hi hne => (Below.heap_setCell _ _ _ _ (fun e => hne e)).trans (h.block i hi hne)⟩
theorem Keep.toBelow {b B : Nat} {w0 w : World} (h : Keep b w0 w) (hB : B ≤ b) (hs : B ≤ w0.heap.size) : Below B w0 w :=
  ⟨h.os, h.tape, h.output, h.size, fun i hi => h.block i (by omega) (by omega)⟩

theorem info58 : (Tryd.prog.info? 58).map (fun i => (i.zero, i.size, i.bytes)) = some (some (.agg (vpart 0 0).toArray), 12, 56) := by kernel_rfl
theorem size58 : (Tryd.prog.info? 58).map (·.size) = some 12 := by kernel_rfl

theorem build58 (n : Nat) (W : World) : (Instr.buildSlice 25 1 #[(0, .agg (vtx n).toArray)]).run Tryd.prog W = .ok (.slice (some ⟨W.heap.size, 0, none⟩) 1 1) (W.alloc (rowObj (vtx n) 58)) := by
  obtain ⟨i0, hi, hz0, hz1, hz2⟩ := info_parts info58
  refine run_buildSlice W 25 58 1 _ _ i0 _ Tryd.underlying25 hi hz0 (by rw [hz1]; decide) (by rw [hz1]; decide) ?_
  rw [hz1]
  kernel_rfl

theorem vtx_one (n : Nat) : ∀ u ∈ vtx n, u.oneCell' = true := by
  intro u hu
  simp only [vtx, List.mem_cons, List.not_mem_nil, or_false] at hu
  rcases hu with rfl | rfl | rfl | rfl | rfl | rfl | rfl | rfl | rfl | rfl | rfl | rfl <;> rfl

theorem addr_add (b o j : Nat) : (⟨b, o, none⟩ : Addr).add j = ⟨b, o + j, none⟩ := by
  unfold Addr.add
  split
  · rename_i h; subst h; rfl
  · rfl

theorem owns_slice {w : World} {base : Nat} {v : Value} {n : Nat} {xs : List Value} (h : w.ownsRow base 58 12 v n xs) : ∃ oa cap, v = .slice oa n cap := by
  rcases h.2 with ⟨rfl, rfl⟩ | ⟨g, cap, cur, rfl, _⟩
  · exact ⟨none, 0, rfl⟩
  · exact ⟨_, cap, rfl⟩

/-- The row of the call's own is as it was where all from its base up to here is. -/
theorem owns_below {w w' : World} {base : Nat} {v : Value} {n : Nat} {xs : List Value} (h : w.ownsRow base 58 12 v n xs) (hb : Below w.heap.size w w') : w'.ownsRow base 58 12 v n xs := by
  refine ⟨h.1, ?_⟩
  rcases h.2 with h0 | ⟨g, cap, cur, hv, hb1, hg, rest⟩
  · exact .inl h0
  · refine .inr ⟨g, cap, cur, hv, hb1, ?_, rest⟩
    have hlt : g < w.heap.size := by
      by_cases h : g < w.heap.size
      · exact h
      · rw [Array.getElem?_eq_none (by omega)] at hg
        cases hg
    rw [hb.block g hlt]
    exact hg

/-- The load of a whole corner; the slice of it alone. -/
theorem load_vtx {ops : Array Oper} {rest : List Oper} {dst : Option Tmp} {x : Operand} {tp : TypeId} {ps : String} {af} {a : Act} {w : World} {Q : Exit → Act → World → Prop} (n bz : Nat) (vt : Array Value)
    (hx : a.eval x = .pointer (some ⟨bz, 0, none⟩)) (hv : vt = (vtx n).toArray) (hr : w.rangeAt bz 0 (vtx n)) (h : wpList Tryd.prog ops Q rest (a.put dst (.agg vt)) w) :
    wpList Tryd.prog ops Q (Oper.mk dst (.load 58 x) tp ps af none :: rest) a w := by
  subst hv
  exact wpList_load_mid rfl 58 x rfl bz 0 hx (vtx n) _ hr Tryd.underlying58 rfl size58 h

theorem build_vtx {ops : Array Oper} {rest : List Oper} {dst : Option Tmp} {x : Operand} {tp : TypeId} {ps : String} {af} {a : Act} {w : World} {Q : Exit → Act → World → Prop} (n : Nat) (vt : Array Value)
    (hx : a.eval x = .agg vt) (hv : vt = (vtx n).toArray) (h : wpList Tryd.prog ops Q rest (a.put dst (.slice (some ⟨w.heap.size, 0, none⟩) 1 1)) (w.alloc (.cells vt 58))) :
    wpList Tryd.prog ops Q (Oper.mk dst (.buildSlice 25 1 #[(0, x)]) tp ps af none :: rest) a w := by
  subst hv
  refine wpList_plain rfl fun _ hK => ?_
  unfold Oper.wp execOp
  have hb := build58 n w
  simp only [List.map_toArray, List.map_cons, List.map_nil, hx, Sem.run_bind, hb, Result.andThen_ok]
  exact hK _ _ h

/-- Behind the append. -/
theorem corner_step {w0 wr W2 w5 : World} {b3 n : Nat} {C : List Value} {v v' : Value} (hlt : b3 < w0.heap.size)
    (h0 : wr.ownsRow w0.heap.size 58 12 v n (verts n) ∧ wr.heap[b3]? = some (rowObj (C.set 5 v) 36) ∧ Keep b3 w0 wr) (hb : Below wr.heap.size wr W2)
    (hown' : w5.ownsRow w0.heap.size 58 12 v' (n + 1) (verts n ++ vtx n)) (hgrow : (W2.alloc (rowObj (vtx n) 58)).grownBy w5 v.ownBlock) :
    (w5.heap[b3]? = some (rowObj (C.set 5 v) 36)) ∧
    ((w5.setCell ⟨b3, 5, none⟩ v').ownsRow w0.heap.size 58 12 v' (n + 1) (verts (n + 1)) ∧ (w5.setCell ⟨b3, 5, none⟩ v').heap[b3]? = some (rowObj (C.set 5 v') 36) ∧ Keep b3 w0 (w5.setCell ⟨b3, 5, none⟩ v')) := by
  obtain ⟨hown, hr, hk⟩ := h0
  have hsz := hk.size
  have hsz2 := hb.size
  have hne : some b3 ≠ v.ownBlock := fun h => by have := (hown.lt b3 h.symm).1; omega
  have hblk : w5.heap[b3]? = some (rowObj (C.set 5 v) 36) := by
    rw [hgrow.block b3 (by simp; omega) hne, Below.heap_alloc _ _ _ (by omega), hb.block b3 (by omega)]
    exact hr
  have hb5 : Below w0.heap.size wr w5 := ((hb.mono hsz).alloc (by omega) _).grown hgrow (by simp; omega) (fun j hj => (hown.lt j hj).1)
  refine ⟨hblk, ownsRow_setCell_below hown' hlt _, ?_, (hk.below hb5).set 5 _⟩
  rw [row_set hblk 5 v', List.set_set]

set_option maxRecDepth 100000 in
set_option maxHeartbeats 4000000 in
theorem corners {K : Act → World → Prop} {Q : Exit → Act → World → Prop} {v0 v1 v2 v4 v5 v6 v7 v8 v9 v10 v12 v13 v14 v15 v16 v17 v18 v19 v20 v21 v22 v23 v24 v25 v26 v27 v28 v29 v30 v31 v32 v33 v34 v35 v36 v37 v38 v39 v40 v41 v42 v43 v44 v45 v46 v47 v48 v49 v50 v51 v52 v53 v54 v55 v56 v57 v58 : Value} {w0 : World} {b3 : Nat} {C : List Value} (hC : C.length = 205)
    (hrow : w0.heap[b3]? = some (rowObj (C.set 5 (.slice none 0 0)) 36)) (hlt : b3 < w0.heap.size)
    (hK : ∀ (u4 u5 u6 u7 u12 u13 u14 u15 u16 u17 u18 u19 u20 u21 u22 u23 u24 u25 u26 u27 u28 u29 u30 u31 u32 u33 u34 u35 u36 u37 u38 u39 u40 u41 u42 u43 u44 u45 u46 u47 u48 u49 u50 u51 u52 u53 u54 u55 u56 : Value) (wx : World), (∃ v, wx.ownsRow w0.heap.size 58 12 v 16 (verts 16) ∧ wx.heap[b3]? = some (rowObj (C.set 5 v) 36) ∧ Keep b3 w0 wx) → K ⟨#[v0, v1, v2, .pointer (some ⟨b3, 0, none⟩), u4, u5, u6, u7, v8, v9, v10, .int .i64 16, u12, u13, u14, u15, u16, u17, u18, u19, u20, u21, u22, u23, u24, u25, u26, u27, u28, u29, u30, u31, u32, u33, u34, u35, u36, u37, u38, u39, u40, u41, u42, u43, u44, u45, u46, u47, u48, u49, u50, u51, u52, u53, u54, u55, u56, v57, v58], []⟩ wx) :
    Code.wp Tryd.prog (sub [1, 1, 0, 1] (Tryd.f26.body.getD .skip)) (Exit.then K Q) ⟨#[v0, v1, v2, .pointer (some ⟨b3, 0, none⟩), v4, v5, v6, v7, v8, v9, v10, .int .i64 0, v12, v13, v14, v15, v16, v17, v18, v19, v20, v21, v22, v23, v24, v25, v26, v27, v28, v29, v30, v31, v32, v33, v34, v35, v36, v37, v38, v39, v40, v41, v42, v43, v44, v45, v46, v47, v48, v49, v50, v51, v52, v53, v54, v55, v56, v57, v58], []⟩ w0 := by
  have Hrow := hide hrow
  clear hrow
  obtain ⟨i0, hi, hz0, hz1, hz2⟩ := info_parts info58
  conv => arg 2; whnf
  go_wp2
  go_loopg [11] 16 (fun g s11 wr => ∃ n : Nat, s11 = .int .i64 n ∧ g + n = 16 ∧ ∃ v, wr.ownsRow w0.heap.size 58 12 v n (verts n) ∧ wr.heap[b3]? = some (rowObj (C.set 5 v) 36) ∧ Keep b3 w0 wr)
  case atStart => exact ⟨0, rfl, rfl, .slice none 0 0, World.ownsRow_nil _ _ _ _, unhide Hrow, Keep.refl _ _⟩
  case round =>
    obtain ⟨n, rfl, hg, v, hown, hr, hk⟩ := hrel
    by_cases c : n < 16
    · have Hg := hide hg
      have H0 := hide (And.intro hown (And.intro hr hk))
      clear hg hown hr hk
      go_upto_block 2 with fail
      refine dims (w0 := wr.alloc (rowObj (vpart n 0) 58)) (bz := wr.heap.size) c (heap_alloc_new _ _) (by simp) ?_
      intro u6 u7 u15 u16 u17 u18 u19 u20 u21 u22 u23 u24 u25 u26 u27 u28 u29 u30 u31 u32 u33 u34 u35 u36 u37 u38 u39 u40 u41 u42 u43 u44 u45 wx hx
      dsimp only
      obtain ⟨rx, bx, lx⟩ := hx
      have c0 := row_cell rx 0 _ rfl
      have c1 := row_cell rx 1 _ rfl
      have c2 := row_cell rx 2 _ rfl
      have c3 := row_cell rx 3 _ rfl
      have bx0 : Below wr.heap.size wr wx := ((Below.refl _ _).alloc (Nat.le_refl _) _).trans bx
      obtain ⟨bz, ebz⟩ : ∃ bz, bz = wr.heap.size := ⟨_, rfl⟩
      rw [← ebz] at rx bx lx c0 c1 c2 c3 bx0 ⊢
      have H1 := hide (And.intro ebz (And.intro rx (And.intro bx0 lx)))
      clear ebz rx bx bx0 lx
      have ho := orth_any (fun j => n.testBit j) wx
      have hos : orth (fun j => n.testBit j) 4 = n := orth_self ⟨n, c⟩
      rw [hos] at ho
      unfold pt at ho
      dsimp only at ho
      obtain ⟨f0, e0⟩ : ∃ x, x = fb (n.testBit 0) := ⟨_, rfl⟩
      obtain ⟨f1, e1⟩ : ∃ x, x = fb (n.testBit 1) := ⟨_, rfl⟩
      obtain ⟨f2, e2⟩ : ∃ x, x = fb (n.testBit 2) := ⟨_, rfl⟩
      obtain ⟨f3, e3⟩ : ∃ x, x = fb (n.testBit 3) := ⟨_, rfl⟩
      have d0 : wx.cell? ⟨bz, 0, none⟩ = some (.float .f64 f0) := by rw [e0]; exact c0
      have d1 : wx.cell? ⟨bz, 1, none⟩ = some (.float .f64 f1) := by rw [e1]; exact c1
      have d2 : wx.cell? ⟨bz, 2, none⟩ = some (.float .f64 f2) := by rw [e2]; exact c2
      have d3 : wx.cell? ⟨bz, 3, none⟩ = some (.float .f64 f3) := by rw [e3]; exact c3
      rw [← e0, ← e1, ← e2, ← e3] at ho
      have Ho := hide ho
      clear ho hos e0 e1 e2 e3 c0 c1 c2 c3
      go_wp2_with fail
      refine (unhide Ho).mono ?_
      rintro e w1 ⟨rfl, hb1⟩
      have r1 : w1.heap[bz]? = some (rowObj (vpart n 4) 58) := (hb1.block bz (unhide H1).2.2.2).trans (unhide H1).2.1
      have c7 := row_cell r1 7 _ rfl
      have f7 := row_free r1 7
      have rv := row_set r1 7 (.int .u8 (n : Nat))
      rw [vpart_all] at rv
      have hb2 : Below bz wr (w1.setCell ⟨bz, 7, none⟩ (.int .u8 (n : Nat))) := ((unhide H1).2.2.1.trans (hb1.mono (Nat.le_of_lt (unhide H1).2.2.2))).setCell (Nat.le_refl _) _
      have H2 := hide (And.intro rv hb2)
      clear r1 rv hb1 hb2 Ho d0 d1 d2 d3
      go_upto_region 15 with fail
      obtain ⟨W2, eW2⟩ : ∃ W2, W2 = w1.setCell ⟨bz, 7, none⟩ (.int .u8 (n : Nat)) := ⟨_, rfl⟩
      rw [← eW2] at H2 ⊢
      clear eW2 c7 f7
      obtain ⟨oa, cap, rfl⟩ := owns_slice (unhide H0).1
      have hbw : Below wr.heap.size wr W2 := by rw [← (unhide H1).1]; exact (unhide H2).2
      have r3 : W2.heap[b3]? = some (rowObj (C.set 5 (.slice oa n cap)) 36) := (hbw.block b3 (by have := (unhide H0).2.2.size; omega)).trans (unhide H0).2.1
      have c5 := row_cell r3 5 _ (List.getElem?_set_self (by rw [hC]; decide))
      have hrg : Hid (W2.rangeAt bz 0 (vtx n)) := fun j v hv => by rw [Nat.zero_add]; exact row_cell (unhide H2).1 j v hv
      obtain ⟨vt, evt⟩ : ∃ vt, vt = (vtx n).toArray := ⟨_, rfl⟩
      have Evt := hide evt
      clear evt
      have hown2 := owns_below (unhide H0).1 hbw
      have hsz := (unhide H0).2.2.size
      have hsz2 := hbw.size
      have Hbw := hide hbw
      clear r3 hbw
      go_wp2_with (first | ((with_reducible refine load_vtx n bz vt ?hx (unhide Evt) (unhide hrg) ?rest); (case hx => rfl)) | ((with_reducible show wpList _ _ _ (Oper.mk _ (.buildSlice _ _ _) _ _ _ _ :: _) _ _); refine build_vtx n vt rfl (unhide Evt) ?_) | (at_builtin; refine wpList_append_own _ rfl _ _ 25 rfl w0.heap.size 58 i0 (.agg (vpart 0 0).toArray) 12 56 Tryd.underlying25 hi hz0 hz1 hz2 rfl (by decide) _ _ _ rfl (hown2.alloc _) ⟨W2.heap.size, 0, none⟩ 1 1 (vtx n) rfl rfl ?c1 ?c2 ?c3 ?c4 ?c5 ?_))
      case c1 =>
        intro j u hj
        rw [addr_add, Nat.zero_add]
        have hrr : (W2.alloc (.cells vt 58)).heap[W2.heap.size]? = some (rowObj (vtx n) 58) := by rw [unhide Evt]; exact heap_alloc_new _ _
        exact row_cell hrr j u hj
      case c2 => exact vtx_one n
      case c3 => unfold maxLen; omega
      case c4 => omega
      case c5 => simp; omega
      intro v' w5 hown' hgrow _
      rw [unhide Evt] at hgrow
      obtain ⟨q1, q2⟩ := corner_step hlt (unhide H0) (unhide Hbw) hown' hgrow
      obtain ⟨oa', cap', rfl⟩ := owns_slice hown'
      have c5' := row_cell q1 5 _ (List.getElem?_set_self (by rw [hC]; decide))
      have f5' := row_free q1 5
      have Q2 := hide q2
      clear hown' hgrow hown2 q1 q2 c5 hrg
      go_wp2
      go_roundg (gk - 1)
      case measure => have := unhide Hg; omega
      case rel => exact ⟨n + 1, by go_num, by have := unhide Hg; omega, _, unhide Q2⟩
    · obtain rfl : n = 16 := by omega
      have hex : ∃ v, wr.ownsRow w0.heap.size 58 12 v 16 (verts 16) ∧ wr.heap[b3]? = some (rowObj (C.set 5 v) 36) ∧ Keep b3 w0 wr := ⟨v, hown, hr, hk⟩
      have H2 := hide hex
      clear hg hown hr hk hex
      go_wp2
      exact unhide H2

end Go.Proofs.Qxb6614855aDoor
