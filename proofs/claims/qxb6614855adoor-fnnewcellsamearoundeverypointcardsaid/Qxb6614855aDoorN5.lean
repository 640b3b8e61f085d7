/- newCell, whole. -/
import Derived.Test.Qxb6614855aDoorN4
namespace Go.Proofs.Qxb6614855aDoor
open Go.RowKit

theorem wl_store {ops : Array Oper} {rest : List Oper} {dst : Option Tmp} {x y : Operand} {tp : TypeId} {ps : String} {af} {a : Act} {w : World} {Q : Exit → Act → World → Prop} {b3 : Nat} {f g : Nat → Value} {Z : Array Value}
    (hx : a.eval x = .pointer (some ⟨b3, 0, none⟩)) (hy : a.eval y = .agg Z) (hZ : Z = (lay f).toArray) (hone : ∀ j, (f j).oneCell' = true) (hrow : w.heap[b3]? = some (rowObj (lay g) 36))
    (h : ∀ w', w'.heap[b3]? = some (rowObj (lay f) 36) ∧ Keep b3 w w' → wpList Tryd.prog ops Q rest (a.put dst undef) w') : wpList Tryd.prog ops Q (Oper.mk dst (.store 36 x y) tp ps af none :: rest) a w :=
  wpList_plain rfl fun _ hK => by with_reducible exact store_whole hx hy hZ hone hrow (fun w' hw => hK _ _ (h w' hw))
theorem wl_load {ops : Array Oper} {rest : List Oper} {dst : Option Tmp} {x : Operand} {tp : TypeId} {ps : String} {af} {a : Act} {w : World} {Q : Exit → Act → World → Prop} {b3 : Nat} {f : Nat → Value} {Z : Array Value}
    (hx : a.eval x = .pointer (some ⟨b3, 0, none⟩)) (hZ : Z = (lay f).toArray) (hrow : w.heap[b3]? = some (rowObj (lay f) 36))
    (h : wpList Tryd.prog ops Q rest (a.put dst (.agg Z)) w) : wpList Tryd.prog ops Q (Oper.mk dst (.load 36 x) tp ps af none :: rest) a w :=
  wpList_plain rfl fun _ hK => by with_reducible exact load_whole hx hZ hrow (hK _ _ h)
theorem wl_alloc {ops : Array Oper} {rest : List Oper} {dst : Option Tmp} {tp : TypeId} {ps : String} {af} {a : Act} {w : World} {Q : Exit → Act → World → Prop} {ZO : Obj} (hZO : ZO = rowObj (lay zeroF) 36)
    (h : wpList Tryd.prog ops Q rest (a.put dst (.pointer (some ⟨w.heap.size, 0, none⟩))) (w.alloc ZO)) : wpList Tryd.prog ops Q (Oper.mk dst (.alloc 36) tp ps af none :: rest) a w :=
  wpList_plain rfl fun _ hK => by with_reducible exact alloc_whole hZO (hK _ _ h)

theorem verts_at : ∀ n k i v, k < n → (vtx k)[i]? = some v → (verts n)[k * 12 + i]? = some v
  | 0, _, _, _, h, _ => by omega
  | n + 1, k, i, v, h, hv => by
    have hi : i < 12 := by
      have := (List.getElem?_eq_some_iff.1 hv).1
      simpa [vtx] using this
    unfold verts
    by_cases c : k < n
    · rw [List.getElem?_append_left (by rw [verts_len]; omega)]
      exact verts_at n k i v c hv
    · obtain rfl : k = n := by omega
      rw [List.getElem?_append_right (by rw [verts_len]; omega), verts_len, Nat.add_sub_cancel_left]
      exact hv

theorem Corners.of_owns {w : World} {base bv cap : Nat} (h : w.ownsRow base 58 12 (.slice (some ⟨bv, 0, none⟩) 16 cap) 16 (verts 16)) : Corners bv w := fun k i v hk hv => by
  have := h.cells (g := bv) rfl (k * 12 + i) v (verts_at 16 k i v hk hv)
  rw [addr_add, Nat.zero_add] at this
  exact this

/-- The new cell's cells. -/
def newF (x : Nat → Int) (bp bv cap : Nat) : Nat → Value := doneF (upd (cellF x (.slice (some ⟨bp, 0, none⟩) 8 16) true) 5 (.slice (some ⟨bv, 0, none⟩) 16 cap))

theorem upd_one {f : Nat → Value} (h : ∀ j, (f j).oneCell' = true) {x : Value} (hx : x.oneCell' = true) (i j : Nat) : (upd f i x j).oneCell' = true := by
  unfold upd
  split
  · exact hx
  · exact h j
theorem onF_one {f : Nat → Value} (h : ∀ j, (f j).oneCell' = true) (n : Nat → Nat) (j : Nat) : (onF f n j).oneCell' = true := by
  unfold onF
  split
  · rfl
  · exact h j
theorem cornF_one {f : Nat → Value} (h : ∀ j, (f j).oneCell' = true) (k j : Nat) : (cornF f k j).oneCell' = true := by
  unfold cornF
  repeat' split
  · rfl
  · rfl
  · rfl
  · exact h j
theorem newF_one (x : Nat → Int) (bp bv cap j : Nat) : (newF x bp bv cap j).oneCell' = true :=
  upd_one (cornF_one (onF_one (upd_one (cellF_one x bp true) rfl 5) _) 16) rfl 198 j

set_option maxRecDepth 100000 in
set_option maxHeartbeats 4000000 in
theorem newCell_any (x : Nat → Int) (w : World) (hT : TabAt 0 Lib.deBruijn32tab w) (hs : 0 < w.heap.size) : Calls Tryd.prog 26 #[.agg (ownA x)] w fun e w' =>
    ∃ bp bv cap, e = .returned (.agg (lay (newF x bp bv cap)).toArray) ∧ w'.heap[bp]? = some (rowObj planesL 61) ∧ Corners bv w' ∧ Below w.heap.size w w' := by
  obtain ⟨ZO, eZO⟩ : ∃ ZO, ZO = rowObj (lay zeroF) 36 := ⟨_, rfl⟩
  obtain ⟨W0, eW0⟩ : ∃ W0, W0 = (w.alloc (.cells (ownA x) 23)).alloc ZO := ⟨_, rfl⟩
  have hb0 : Below w.heap.size w W0 := by rw [eW0]; exact ((Below.refl _ _).alloc (Nat.le_refl _) _).alloc (by simp) _
  have hz0 : W0.heap.size = w.heap.size + 2 := by rw [eW0]; simp
  have hr1 : W0.heap[w.heap.size]? = some (.cells (ownA x) 23) := by
    rw [eW0, Below.heap_alloc _ _ _ (by simp)]
    exact heap_alloc_last _ _
  have hr2 : W0.heap[w.heap.size + 1]? = some (rowObj (lay zeroF) 36) := by
    rw [eW0, ← eZO]
    have := heap_alloc_last (w.alloc (.cells (ownA x) 23)) ZO
    simpa using this
  have HZO := hide eZO
  have hrg : W0.rangeAt w.heap.size 0 (ownA x).toList := by
    have := World.rangeAt_of_block hr1 0 4
    exact this
  have H0 := hide (And.intro hT (And.intro hb0 (And.intro hr2 hrg)))
  clear hT hb0 hr1 hr2 hrg eZO
  obtain ⟨O, eO⟩ : ∃ O, O = ownA x := ⟨_, rfl⟩
  rw [← eO] at eW0 ⊢
  clear eO
  go_enter Tryd.func26, Tryd.ntmps26
  go_upto_region 1 with (with_reducible refine wl_alloc (unhide HZO) ?_)
  rw [← eW0]
  clear eW0
  refine region1 (x := x) (unhide H0).2.2.2 ?_
  intro u8 u9 u10 b3 bp w1 h1
  dsimp only
  obtain ⟨n1, n2, n3, q3, qp, hb1⟩ := h1
  have f5 : cellF x (.slice (some ⟨bp, 0, none⟩) 8 16) true 5 = .slice none 0 0 := rfl
  have q3' : w1.heap[b3]? = some (rowObj ((lay (cellF x (.slice (some ⟨bp, 0, none⟩) 8 16) true)).set 5 (.slice none 0 0)) 36) := by
    rw [lay_set _ (by omega), q3, lay_congr]
    intro j _
    unfold upd
    split
    · rename_i e; rw [e]; exact f5
    · rfl
  have l3 := lt_of_heap q3
  have lp := lt_of_heap qp
  have H1 := hide (And.intro q3' (And.intro qp hb1))
  clear q3 q3' qp hb1 f5
  go_upto_block 0 with fail
  refine corners (C := lay (cellF x (.slice (some ⟨bp, 0, none⟩) 8 16) true)) (lay_len _) (unhide H1).1 l3 ?_
  intro u4 u5 u6 u7 u12 u13 u14 u15 u16 u17 u18 u19 u20 u21 u22 u23 u24 u25 u26 u27 u28 u29 u30 u31 u32 u33 u34 u35 u36 u37 u38 u39 u40 u41 u42 u43 u44 u45 u46 u47 u48 u49 u50 u51 u52 u53 u54 u55 u56 wx hx
  dsimp only
  obtain ⟨v, hown, rx, kx⟩ := hx
  obtain ⟨bv, cap, rfl⟩ : ∃ bv cap, v = .slice (some ⟨bv, 0, none⟩) 16 cap := by
    rcases hown.2 with ⟨_, h0⟩ | ⟨g, cap, cur, hv, _⟩
    · omega
    · exact ⟨g, cap, hv⟩
  have hvb := hown.lt bv rfl
  have hV := Corners.of_owns hown
  have hF : ∀ i, wx.frozen? ⟨bv, i, none⟩ = false := hown.frozenAt
  rw [lay_set _ (by omega)] at rx
  have zx := kx.size
  have z1 := (unhide H1).2.2.size
  have hbx : Below w.heap.size w wx := (unhide H0).2.1.trans ((unhide H1).2.2.mono (by omega) |>.trans (kx.toBelow (by omega) (by omega)))
  have hTx : TabAt 0 Lib.deBruijn32tab wx := fun i hi => (World.cell?_of_block (w := w) (hbx.block 0 hs)).trans ((unhide H0).1 i hi)
  have hpr := prune_any (f := upd (cellF x (.slice (some ⟨bp, 0, none⟩) 8 16) true) 5 (.slice (some ⟨bv, 0, none⟩) 16 cap)) (bp := bp) rfl rfl
    (fun j h1 h2 => by unfold upd cellF; rw [if_neg (by omega), if_neg (by omega), if_neg (by omega), if_neg (by omega), if_pos (by omega)])
    (fun j h1 h2 => by unfold upd cellF; rw [if_neg (by omega), if_neg (by omega), if_neg (by omega), if_neg (by omega), if_neg (by omega), if_pos (by omega)])
    (fun j h1 h2 => by unfold upd cellF; rw [if_neg (by omega), if_neg (by omega), if_neg (by omega), if_neg (by omega), if_neg (by omega), if_neg (by omega), if_pos (by omega)])
    rfl rx hV hF (by omega) hvb.2 hTx (by omega)
  have qpx : wx.heap[bp]? = some (rowObj planesL 61) := (kx.block bp lp n1).trans (unhide H1).2.1
  have q2x : wx.heap[w.heap.size + 1]? = some (rowObj (lay zeroF) 36) := (kx.block _ (by omega) (by omega)).trans (((unhide H1).2.2.block _ (by omega)).trans (unhide H0).2.2.1)
  have H2 := hide (And.intro hpr (And.intro hV (And.intro hbx (And.intro qpx q2x))))
  clear hpr hV hbx qpx q2x hTx hF rx kx hown
  obtain ⟨Z, eZ⟩ : ∃ Z, Z = (lay (newF x bp bv cap)).toArray := ⟨_, rfl⟩
  have HZ := hide eZ
  clear eZ
  go_upto_region 18 with (go_at_call 29; refine (unhide H2).1.mono ?_; rintro e wy ⟨⟨ve, rfl⟩, ry, ky⟩)
  have q2y : wy.heap[w.heap.size + 1]? = some (rowObj (lay zeroF) 36) := (ky.block _ (by omega) (by omega)).trans (unhide H2).2.2.2.2
  have H3 := hide (And.intro (show wy.heap[b3]? = some (rowObj (lay (newF x bp bv cap)) 36) from ry) (And.intro ky q2y))
  clear ry ky q2y
  go_wp2_with (first | ((with_reducible refine wl_load (b3 := b3) (f := newF x bp bv cap) ?hx (unhide HZ) (unhide H3).1 ?_); (case hx => rfl)) | ((with_reducible refine wl_store (b3 := w.heap.size + 1) (f := newF x bp bv cap) (g := zeroF) ?hx ?hy (unhide HZ) (newF_one x bp bv cap) (unhide H3).2.2 ?_); (case hx => rfl); (case hy => rfl); intro wz hz))
  have hzz : wz.heap[w.heap.size + 1]? = some (.cells Z 36 (0, 0)) := by rw [unhide HZ]; exact hz.1
  have hsz : (Tryd.prog.info? 36).map (·.size) = some Z.size := by rw [unhide HZ, size36, List.size_toArray, lay_len]
  refine bodyPost_ret (results_cell_row rfl _ _ (w.heap.size + 1) 36 Z (0, 0) _ rfl hzz Tryd.underlying36 rfl hsz) rfl ?_
  have zy := (unhide H3).2.1.size
  refine ⟨bp, bv, cap, by rw [unhide HZ], ?_, ?_, ?_⟩
  · exact (hz.2.block bp (by omega) (by omega)).trans (((unhide H3).2.1.block bp (by omega) n1).trans (unhide H2).2.2.2.1)
  · exact ((unhide H2).2.1.keep (unhide H3).2.1 (by omega) hvb.2).keep hz.2 (by omega) (by omega)
  · exact (unhide H2).2.2.1.trans (((unhide H3).2.1.toBelow (by omega) (by omega)).trans (hz.2.toBelow (by omega) (by omega)))

end Go.Proofs.Qxb6614855aDoor
