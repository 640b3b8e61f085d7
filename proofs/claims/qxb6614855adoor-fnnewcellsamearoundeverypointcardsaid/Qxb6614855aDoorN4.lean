/- newCell's second region: the cell is made, in whatever order. -/
import Derived.Test.Qxb6614855aDoorN3
namespace Go.Proofs.Qxb6614855aDoor
open Go.RowKit

theorem ready_cons {P : Program} {md : Region.Mode} {ops : Array Oper} {Q : Exit → Act → World → Prop} {fuel : Nat} {listed : Array Bool} {a : Act} {w : World} {i : Nat} {o : Oper} {rs : List Nat} (ho : ops[i]? = some o) (hg : o.guard = none)
    (h : ∀ K' : Act → World → Prop, (∀ a w, wpAny P md ops Q fuel (listed.setIfInBounds i true) a w → K' a w) → Oper.wp P o a w K' Q)
    (hs : AllReady P md ops Q fuel listed a w rs) : AllReady P md ops Q fuel listed a w (i :: rs) :=
  AllReady.cons ho (fun K hK => step_of hg (h K hK)) hs

set_option maxRecDepth 100000 in
set_option maxHeartbeats 4000000 in
theorem region1 {K : Act → World → Prop} {Q : Exit → Act → World → Prop} {v0 v2 v3 v4 v5 v6 v7 v8 v9 v10 v11 v12 v13 v14 v15 v16 v17 v18 v19 v20 v21 v22 v23 v24 v25 v26 v27 v28 v29 v30 v31 v32 v33 v34 v35 v36 v37 v38 v39 v40 v41 v42 v43 v44 v45 v46 v47 v48 v49 v50 v51 v52 v53 v54 v55 v56 v57 v58 : Value} {w : World} {b1 : Nat} {x : Nat → Int} (hr : w.rangeAt b1 0 (ownA x).toList)
    (hK' : ∀ (u8 u9 u10 : Value) (b3 bp : Nat) (wx : World), (bp ≠ b3 ∧ w.heap.size ≤ bp ∧ w.heap.size ≤ b3 ∧ wx.heap[b3]? = some (rowObj (lay (cellF x (.slice (some ⟨bp, 0, none⟩) 8 16) true)) 36) ∧ wx.heap[bp]? = some (rowObj planesL 61) ∧ Below w.heap.size w wx) → K ⟨#[v0, .pointer (some ⟨b1, 0, none⟩), v2, .pointer (some ⟨b3, 0, none⟩), v4, v5, v6, v7, u8, u9, u10, v11, v12, v13, v14, v15, v16, v17, v18, v19, v20, v21, v22, v23, v24, v25, v26, v27, v28, v29, v30, v31, v32, v33, v34, v35, v36, v37, v38, v39, v40, v41, v42, v43, v44, v45, v46, v47, v48, v49, v50, v51, v52, v53, v54, v55, v56, v57, v58], []⟩ wx) :
    Code.wp Tryd.prog (sub [1, 0] (Tryd.f26.body.getD .skip)) (Exit.then K Q) ⟨#[v0, .pointer (some ⟨b1, 0, none⟩), v2, v3, v4, v5, v6, v7, v8, v9, v10, v11, v12, v13, v14, v15, v16, v17, v18, v19, v20, v21, v22, v23, v24, v25, v26, v27, v28, v29, v30, v31, v32, v33, v34, v35, v36, v37, v38, v39, v40, v41, v42, v43, v44, v45, v46, v47, v48, v49, v50, v51, v52, v53, v54, v55, v56, v57, v58], []⟩ w := by
  conv => arg 2; whnf
  refine wp_region_any (by kernel_rfl) ?_
  change wpAny _ _ _ _ _ _ _ (World.drew _)
  have hr' : w.drew.rangeAt b1 0 (ownA x).toList := by rw [World.rangeAt_drew]; exact hr
  have hdb : Below w.heap.size w w.drew := (Below.refl _ _).drew
  have hds : w.drew.heap.size = w.heap.size := rfl
  obtain ⟨W, eW⟩ : ∃ W, W = w.drew := ⟨_, rfl⟩
  rw [← eW] at hr' hdb hds ⊢
  clear eW
  obtain ⟨PO, ePO⟩ : ∃ PO, PO = rowObj planesL 61 := ⟨_, rfl⟩
  obtain ⟨ZO, eZO⟩ : ∃ ZO, ZO = rowObj (lay zeroF) 36 := ⟨_, rfl⟩
  obtain ⟨OL, eOL'⟩ : ∃ OL, OL = (ownA x).toList := ⟨_, rfl⟩
  have eOL : OL.toArray = ownA x := by rw [eOL']
  have hOL : (Tryd.prog.info? 23).map (·.size) = some OL.length := by rw [eOL', size23]; rfl
  rw [← eOL'] at hr'
  clear eOL'
  obtain ⟨C1, eC1⟩ : ∃ C, C = (lay (cellF x (.slice (some ⟨W.heap.size, 0, none⟩) 8 16) true)).toArray := ⟨_, rfl⟩
  obtain ⟨C2, eC2⟩ : ∃ C, C = (lay (cellF x (.slice (some ⟨(W.alloc ZO).heap.size, 0, none⟩) 8 16) true)).toArray := ⟨_, rfl⟩
  have fin1 : ∀ wx, wx.heap[(W.alloc PO).heap.size]? = some (rowObj (lay (cellF x (.slice (some ⟨W.heap.size, 0, none⟩) 8 16) true)) 36) ∧ Keep (W.alloc PO).heap.size ((W.alloc PO).alloc ZO) wx →
      (W.heap.size ≠ (W.alloc PO).heap.size ∧ w.heap.size ≤ W.heap.size ∧ w.heap.size ≤ (W.alloc PO).heap.size ∧ wx.heap[(W.alloc PO).heap.size]? = some (rowObj (lay (cellF x (.slice (some ⟨W.heap.size, 0, none⟩) 8 16) true)) 36) ∧ wx.heap[W.heap.size]? = some (rowObj planesL 61) ∧ Below w.heap.size w wx) := by
    intro wx ⟨q1, q2⟩
    have e1 : (W.alloc PO).heap.size = W.heap.size + 1 := by simp
    have e2 : ((W.alloc PO).alloc ZO).heap.size = W.heap.size + 2 := by simp
    refine ⟨by omega, by omega, by omega, q1, ?_, ?_⟩
    · rw [q2.block _ (by omega) (by omega), Below.heap_alloc _ _ _ (by omega), ← ePO]
      exact heap_alloc_last _ _
    · exact hdb.trans (((((Below.refl _ _).alloc (by omega) _).alloc (by omega) _).trans (q2.toBelow (by omega) (by omega))))
  have fin2 : ∀ wx, wx.heap[W.heap.size]? = some (rowObj (lay (cellF x (.slice (some ⟨(W.alloc ZO).heap.size, 0, none⟩) 8 16) true)) 36) ∧ Keep W.heap.size ((W.alloc ZO).alloc PO) wx →
      ((W.alloc ZO).heap.size ≠ W.heap.size ∧ w.heap.size ≤ (W.alloc ZO).heap.size ∧ w.heap.size ≤ W.heap.size ∧ wx.heap[W.heap.size]? = some (rowObj (lay (cellF x (.slice (some ⟨(W.alloc ZO).heap.size, 0, none⟩) 8 16) true)) 36) ∧ wx.heap[(W.alloc ZO).heap.size]? = some (rowObj planesL 61) ∧ Below w.heap.size w wx) := by
    intro wx ⟨q1, q2⟩
    have e1 : (W.alloc ZO).heap.size = W.heap.size + 1 := by simp
    have e2 : ((W.alloc ZO).alloc PO).heap.size = W.heap.size + 2 := by simp
    refine ⟨by omega, by omega, by omega, q1, ?_, ?_⟩
    · rw [q2.block _ (by omega) (by omega), ← ePO]
      exact heap_alloc_last _ _
    · exact hdb.trans (((((Below.refl _ _).alloc (by omega) _).alloc (by omega) _).trans (q2.toBelow (by omega) (by omega))))
  have row1 : ((W.alloc PO).alloc ZO).heap[(W.alloc PO).heap.size]? = some (rowObj (lay zeroF) 36) := by rw [← eZO]; exact heap_alloc_last _ _
  have row2 : ((W.alloc ZO).alloc PO).heap[W.heap.size]? = some (rowObj (lay zeroF) 36) := by
    rw [Below.heap_alloc _ _ _ (by simp), ← eZO]
    exact heap_alloc_last _ _
  refine wpAny_ready (rs := [0, 1, 3]) (by kernel_rfl) (by simp) ?_
  refine ready_cons (o := Oper.mk (some 8) (.load 23 (.tmp 1)) 23 "cell.go:196" #[] none) rfl rfl (fun K hK => wp_load_mid 23 (.tmp 1) rfl b1 0 rfl OL _ hr' Tryd.underlying23 rfl hOL (hK _ _ ?_)) ?_
  · skip
    refine wpAny_ready (rs := [1, 3]) (by kernel_rfl) (by simp) ?_
    refine ready_cons (o := Oper.mk (some 9) (.makeSlice 24 (.const (.int .i64 8)) (.const (.int .i64 16))) 24 "cell.go:196" #[] none) rfl rfl (fun K hK => make_planes ePO (hK _ _ ?_)) ?_
    · skip
      refine wpAny_ready (rs := [2, 3]) (by kernel_rfl) (by simp) ?_
      refine ready_cons (o := Oper.mk (some 10) (.build 36 #[(0, .tmp 8), (1, .tmp 9), (9, .const (.bool true))]) 36 "cell.go:196" #[⟨0, .data⟩, ⟨1, .data⟩] none) rfl rfl (fun K hK => build_cell eOL eC1 rfl rfl (hK _ _ ?_)) ?_
      · skip
        refine wpAny_ready (rs := [3]) (by kernel_rfl) (by simp) ?_
        refine ready_cons (o := Oper.mk (some 3) (.alloc 36) 0 "cell.go:196" #[] none) rfl rfl (fun K hK => alloc_whole eZO (hK _ _ ?_)) ?_
        · skip
          refine wpAny_ready (rs := [4]) (by kernel_rfl) (by simp) ?_
          refine ready_cons (o := Oper.mk none (.store 36 (.tmp 3) (.tmp 10)) 0 "cell.go:196" #[⟨3, .data⟩, ⟨2, .data⟩, ⟨0, .phase⟩, ⟨1, .phase⟩, ⟨2, .phase⟩, ⟨3, .phase⟩] none) rfl rfl ?_ ?_
          · intro K hK
            with_reducible refine store_whole (b3 := (W.alloc PO).heap.size) (f := _) (g := zeroF) (Z := C1) ?_ ?_ eC1 (cellF_one _ _ _) row1 ?_
            · rfl
            · rfl
            · intro wx hx
              refine hK _ _ ?_
              refine wpAny_done (by kernel_rfl) ?_ _
              exact hK' _ _ _ _ _ _ (fin1 wx hx)
          exact AllReady.nil
        exact AllReady.nil
      refine ready_cons (o := Oper.mk (some 3) (.alloc 36) 0 "cell.go:196" #[] none) rfl rfl (fun K hK => alloc_whole eZO (hK _ _ ?_)) ?_
      · skip
        refine wpAny_ready (rs := [2]) (by kernel_rfl) (by simp) ?_
        refine ready_cons (o := Oper.mk (some 10) (.build 36 #[(0, .tmp 8), (1, .tmp 9), (9, .const (.bool true))]) 36 "cell.go:196" #[⟨0, .data⟩, ⟨1, .data⟩] none) rfl rfl (fun K hK => build_cell eOL eC1 rfl rfl (hK _ _ ?_)) ?_
        · skip
          refine wpAny_ready (rs := [4]) (by kernel_rfl) (by simp) ?_
          refine ready_cons (o := Oper.mk none (.store 36 (.tmp 3) (.tmp 10)) 0 "cell.go:196" #[⟨3, .data⟩, ⟨2, .data⟩, ⟨0, .phase⟩, ⟨1, .phase⟩, ⟨2, .phase⟩, ⟨3, .phase⟩] none) rfl rfl ?_ ?_
          · intro K hK
            with_reducible refine store_whole (b3 := (W.alloc PO).heap.size) (f := _) (g := zeroF) (Z := C1) ?_ ?_ eC1 (cellF_one _ _ _) row1 ?_
            · rfl
            · rfl
            · intro wx hx
              refine hK _ _ ?_
              refine wpAny_done (by kernel_rfl) ?_ _
              exact hK' _ _ _ _ _ _ (fin1 wx hx)
          exact AllReady.nil
        exact AllReady.nil
      exact AllReady.nil
    refine ready_cons (o := Oper.mk (some 3) (.alloc 36) 0 "cell.go:196" #[] none) rfl rfl (fun K hK => alloc_whole eZO (hK _ _ ?_)) ?_
    · skip
      refine wpAny_ready (rs := [1]) (by kernel_rfl) (by simp) ?_
      refine ready_cons (o := Oper.mk (some 9) (.makeSlice 24 (.const (.int .i64 8)) (.const (.int .i64 16))) 24 "cell.go:196" #[] none) rfl rfl (fun K hK => make_planes ePO (hK _ _ ?_)) ?_
      · skip
        refine wpAny_ready (rs := [2]) (by kernel_rfl) (by simp) ?_
        refine ready_cons (o := Oper.mk (some 10) (.build 36 #[(0, .tmp 8), (1, .tmp 9), (9, .const (.bool true))]) 36 "cell.go:196" #[⟨0, .data⟩, ⟨1, .data⟩] none) rfl rfl (fun K hK => build_cell eOL eC2 rfl rfl (hK _ _ ?_)) ?_
        · skip
          refine wpAny_ready (rs := [4]) (by kernel_rfl) (by simp) ?_
          refine ready_cons (o := Oper.mk none (.store 36 (.tmp 3) (.tmp 10)) 0 "cell.go:196" #[⟨3, .data⟩, ⟨2, .data⟩, ⟨0, .phase⟩, ⟨1, .phase⟩, ⟨2, .phase⟩, ⟨3, .phase⟩] none) rfl rfl ?_ ?_
          · intro K hK
            with_reducible refine store_whole (b3 := W.heap.size) (f := _) (g := zeroF) (Z := C2) ?_ ?_ eC2 (cellF_one _ _ _) row2 ?_
            · rfl
            · rfl
            · intro wx hx
              refine hK _ _ ?_
              refine wpAny_done (by kernel_rfl) ?_ _
              exact hK' _ _ _ _ _ _ (fin2 wx hx)
          exact AllReady.nil
        exact AllReady.nil
      exact AllReady.nil
    exact AllReady.nil
  refine ready_cons (o := Oper.mk (some 9) (.makeSlice 24 (.const (.int .i64 8)) (.const (.int .i64 16))) 24 "cell.go:196" #[] none) rfl rfl (fun K hK => make_planes ePO (hK _ _ ?_)) ?_
  · skip
    refine wpAny_ready (rs := [0, 3]) (by kernel_rfl) (by simp) ?_
    refine ready_cons (o := Oper.mk (some 8) (.load 23 (.tmp 1)) 23 "cell.go:196" #[] none) rfl rfl (fun K hK => wp_load_mid 23 (.tmp 1) rfl b1 0 rfl OL _ (World.rangeAt_alloc hr' _) Tryd.underlying23 rfl hOL (hK _ _ ?_)) ?_
    · skip
      refine wpAny_ready (rs := [2, 3]) (by kernel_rfl) (by simp) ?_
      refine ready_cons (o := Oper.mk (some 10) (.build 36 #[(0, .tmp 8), (1, .tmp 9), (9, .const (.bool true))]) 36 "cell.go:196" #[⟨0, .data⟩, ⟨1, .data⟩] none) rfl rfl (fun K hK => build_cell eOL eC1 rfl rfl (hK _ _ ?_)) ?_
      · skip
        refine wpAny_ready (rs := [3]) (by kernel_rfl) (by simp) ?_
        refine ready_cons (o := Oper.mk (some 3) (.alloc 36) 0 "cell.go:196" #[] none) rfl rfl (fun K hK => alloc_whole eZO (hK _ _ ?_)) ?_
        · skip
          refine wpAny_ready (rs := [4]) (by kernel_rfl) (by simp) ?_
          refine ready_cons (o := Oper.mk none (.store 36 (.tmp 3) (.tmp 10)) 0 "cell.go:196" #[⟨3, .data⟩, ⟨2, .data⟩, ⟨0, .phase⟩, ⟨1, .phase⟩, ⟨2, .phase⟩, ⟨3, .phase⟩] none) rfl rfl ?_ ?_
          · intro K hK
            with_reducible refine store_whole (b3 := (W.alloc PO).heap.size) (f := _) (g := zeroF) (Z := C1) ?_ ?_ eC1 (cellF_one _ _ _) row1 ?_
            · rfl
            · rfl
            · intro wx hx
              refine hK _ _ ?_
              refine wpAny_done (by kernel_rfl) ?_ _
              exact hK' _ _ _ _ _ _ (fin1 wx hx)
          exact AllReady.nil
        exact AllReady.nil
      refine ready_cons (o := Oper.mk (some 3) (.alloc 36) 0 "cell.go:196" #[] none) rfl rfl (fun K hK => alloc_whole eZO (hK _ _ ?_)) ?_
      · skip
        refine wpAny_ready (rs := [2]) (by kernel_rfl) (by simp) ?_
        refine ready_cons (o := Oper.mk (some 10) (.build 36 #[(0, .tmp 8), (1, .tmp 9), (9, .const (.bool true))]) 36 "cell.go:196" #[⟨0, .data⟩, ⟨1, .data⟩] none) rfl rfl (fun K hK => build_cell eOL eC1 rfl rfl (hK _ _ ?_)) ?_
        · skip
          refine wpAny_ready (rs := [4]) (by kernel_rfl) (by simp) ?_
          refine ready_cons (o := Oper.mk none (.store 36 (.tmp 3) (.tmp 10)) 0 "cell.go:196" #[⟨3, .data⟩, ⟨2, .data⟩, ⟨0, .phase⟩, ⟨1, .phase⟩, ⟨2, .phase⟩, ⟨3, .phase⟩] none) rfl rfl ?_ ?_
          · intro K hK
            with_reducible refine store_whole (b3 := (W.alloc PO).heap.size) (f := _) (g := zeroF) (Z := C1) ?_ ?_ eC1 (cellF_one _ _ _) row1 ?_
            · rfl
            · rfl
            · intro wx hx
              refine hK _ _ ?_
              refine wpAny_done (by kernel_rfl) ?_ _
              exact hK' _ _ _ _ _ _ (fin1 wx hx)
          exact AllReady.nil
        exact AllReady.nil
      exact AllReady.nil
    refine ready_cons (o := Oper.mk (some 3) (.alloc 36) 0 "cell.go:196" #[] none) rfl rfl (fun K hK => alloc_whole eZO (hK _ _ ?_)) ?_
    · skip
      refine wpAny_ready (rs := [0]) (by kernel_rfl) (by simp) ?_
      refine ready_cons (o := Oper.mk (some 8) (.load 23 (.tmp 1)) 23 "cell.go:196" #[] none) rfl rfl (fun K hK => wp_load_mid 23 (.tmp 1) rfl b1 0 rfl OL _ (World.rangeAt_alloc (World.rangeAt_alloc hr' _) _) Tryd.underlying23 rfl hOL (hK _ _ ?_)) ?_
      · skip
        refine wpAny_ready (rs := [2]) (by kernel_rfl) (by simp) ?_
        refine ready_cons (o := Oper.mk (some 10) (.build 36 #[(0, .tmp 8), (1, .tmp 9), (9, .const (.bool true))]) 36 "cell.go:196" #[⟨0, .data⟩, ⟨1, .data⟩] none) rfl rfl (fun K hK => build_cell eOL eC1 rfl rfl (hK _ _ ?_)) ?_
        · skip
          refine wpAny_ready (rs := [4]) (by kernel_rfl) (by simp) ?_
          refine ready_cons (o := Oper.mk none (.store 36 (.tmp 3) (.tmp 10)) 0 "cell.go:196" #[⟨3, .data⟩, ⟨2, .data⟩, ⟨0, .phase⟩, ⟨1, .phase⟩, ⟨2, .phase⟩, ⟨3, .phase⟩] none) rfl rfl ?_ ?_
          · intro K hK
            with_reducible refine store_whole (b3 := (W.alloc PO).heap.size) (f := _) (g := zeroF) (Z := C1) ?_ ?_ eC1 (cellF_one _ _ _) row1 ?_
            · rfl
            · rfl
            · intro wx hx
              refine hK _ _ ?_
              refine wpAny_done (by kernel_rfl) ?_ _
              exact hK' _ _ _ _ _ _ (fin1 wx hx)
          exact AllReady.nil
        exact AllReady.nil
      exact AllReady.nil
    exact AllReady.nil
  refine ready_cons (o := Oper.mk (some 3) (.alloc 36) 0 "cell.go:196" #[] none) rfl rfl (fun K hK => alloc_whole eZO (hK _ _ ?_)) ?_
  · skip
    refine wpAny_ready (rs := [0, 1]) (by kernel_rfl) (by simp) ?_
    refine ready_cons (o := Oper.mk (some 8) (.load 23 (.tmp 1)) 23 "cell.go:196" #[] none) rfl rfl (fun K hK => wp_load_mid 23 (.tmp 1) rfl b1 0 rfl OL _ (World.rangeAt_alloc hr' _) Tryd.underlying23 rfl hOL (hK _ _ ?_)) ?_
    · skip
      refine wpAny_ready (rs := [1]) (by kernel_rfl) (by simp) ?_
      refine ready_cons (o := Oper.mk (some 9) (.makeSlice 24 (.const (.int .i64 8)) (.const (.int .i64 16))) 24 "cell.go:196" #[] none) rfl rfl (fun K hK => make_planes ePO (hK _ _ ?_)) ?_
      · skip
        refine wpAny_ready (rs := [2]) (by kernel_rfl) (by simp) ?_
        refine ready_cons (o := Oper.mk (some 10) (.build 36 #[(0, .tmp 8), (1, .tmp 9), (9, .const (.bool true))]) 36 "cell.go:196" #[⟨0, .data⟩, ⟨1, .data⟩] none) rfl rfl (fun K hK => build_cell eOL eC2 rfl rfl (hK _ _ ?_)) ?_
        · skip
          refine wpAny_ready (rs := [4]) (by kernel_rfl) (by simp) ?_
          refine ready_cons (o := Oper.mk none (.store 36 (.tmp 3) (.tmp 10)) 0 "cell.go:196" #[⟨3, .data⟩, ⟨2, .data⟩, ⟨0, .phase⟩, ⟨1, .phase⟩, ⟨2, .phase⟩, ⟨3, .phase⟩] none) rfl rfl ?_ ?_
          · intro K hK
            with_reducible refine store_whole (b3 := W.heap.size) (f := _) (g := zeroF) (Z := C2) ?_ ?_ eC2 (cellF_one _ _ _) row2 ?_
            · rfl
            · rfl
            · intro wx hx
              refine hK _ _ ?_
              refine wpAny_done (by kernel_rfl) ?_ _
              exact hK' _ _ _ _ _ _ (fin2 wx hx)
          exact AllReady.nil
        exact AllReady.nil
      exact AllReady.nil
    refine ready_cons (o := Oper.mk (some 9) (.makeSlice 24 (.const (.int .i64 8)) (.const (.int .i64 16))) 24 "cell.go:196" #[] none) rfl rfl (fun K hK => make_planes ePO (hK _ _ ?_)) ?_
    · skip
      refine wpAny_ready (rs := [0]) (by kernel_rfl) (by simp) ?_
      refine ready_cons (o := Oper.mk (some 8) (.load 23 (.tmp 1)) 23 "cell.go:196" #[] none) rfl rfl (fun K hK => wp_load_mid 23 (.tmp 1) rfl b1 0 rfl OL _ (World.rangeAt_alloc (World.rangeAt_alloc hr' _) _) Tryd.underlying23 rfl hOL (hK _ _ ?_)) ?_
      · skip
        refine wpAny_ready (rs := [2]) (by kernel_rfl) (by simp) ?_
        refine ready_cons (o := Oper.mk (some 10) (.build 36 #[(0, .tmp 8), (1, .tmp 9), (9, .const (.bool true))]) 36 "cell.go:196" #[⟨0, .data⟩, ⟨1, .data⟩] none) rfl rfl (fun K hK => build_cell eOL eC2 rfl rfl (hK _ _ ?_)) ?_
        · skip
          refine wpAny_ready (rs := [4]) (by kernel_rfl) (by simp) ?_
          refine ready_cons (o := Oper.mk none (.store 36 (.tmp 3) (.tmp 10)) 0 "cell.go:196" #[⟨3, .data⟩, ⟨2, .data⟩, ⟨0, .phase⟩, ⟨1, .phase⟩, ⟨2, .phase⟩, ⟨3, .phase⟩] none) rfl rfl ?_ ?_
          · intro K hK
            with_reducible refine store_whole (b3 := W.heap.size) (f := _) (g := zeroF) (Z := C2) ?_ ?_ eC2 (cellF_one _ _ _) row2 ?_
            · rfl
            · rfl
            · intro wx hx
              refine hK _ _ ?_
              refine wpAny_done (by kernel_rfl) ?_ _
              exact hK' _ _ _ _ _ _ (fin2 wx hx)
          exact AllReady.nil
        exact AllReady.nil
      exact AllReady.nil
    exact AllReady.nil
  exact AllReady.nil

end Go.Proofs.Qxb6614855aDoor
