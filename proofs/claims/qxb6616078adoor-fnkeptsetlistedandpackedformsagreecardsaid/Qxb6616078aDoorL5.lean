/- The fifth loop: the set in rising order. -/
import Derived.Test.Qxb6616078aDoorL1
namespace Go.Proofs.Qxb6616078aDoor
open Go.RowKit Plain

theorem asc_keep {w0 wr w1 : World} {k : Nat} {L : List Nat} {v v' : Value} {o : Obj} (hk : k ∈ L) (hb : Below w0.heap.size w0 wr) (hown : wr.ownsRow w0.heap.size 3 1 v (asc L k).length (nats (asc L k)))
    (hown' : w1.ownsRow w0.heap.size 3 1 v' ((asc L k).length + 1) (nats (asc L k) ++ [.int .i64 (k : Int)])) (hgrow : (wr.alloc o).grownBy w1 v.ownBlock) :
    w1.ownsRow w0.heap.size 3 1 v' (asc L (k + 1)).length (nats (asc L (k + 1))) ∧ Below w0.heap.size w0 w1 := by
  constructor
  · rw [asc_hit hk]
    have e2 : nats (asc L k ++ [k]) = nats (asc L k) ++ [.int .i64 (k : Int)] := by simp [nats]
    rw [e2, List.length_append]
    exact hown'
  · exact (hb.alloc hb.size o).grown hgrow (by have := hb.size; simp; omega) (fun j hj => (hown.lt j hj).1)

set_option maxRecDepth 100000 in
set_option maxHeartbeats 2000000 in
theorem loop5 {K : Act → World → Prop} {Q : Exit → Act → World → Prop} {v0 v1 v2 v3 v5 v7 v8 v9 v10 v13 v14 v15 v16 v17 v18 v19 v20 v21 v22 v23 v24 v25 v26 v27 v28 v29 v30 v31 v32 v33 v34 v35 v36 v37 v38 v39 v40 v41 v42 v43 v44 v45 v46 v47 v48 v49 v50 v51 v52 v53 v54 v55 v56 v57 v58 v59 v60 v61 v62 v63 v64 v65 v66 v67 v68 v69 v70 v71 v72 v73 v74 v75 v76 v77 v78 v79 v80 v81 v82 v83 v84 v85 v86 v87 v88 v89 v90 v91 v92 v93 v94 v95 v96 v97 v98 v99 v100 v101 v102 v103 v104 v105 v106 v107 v108 v109 v110 v111 v112 v113 v114 v115 v116 v117 v118 v119 v120 v121 v122 v123 v124 v125 v126 v127 v128 v129 v130 v131 v132 v133 v134 v135 : Value} {w0 : World} {g4 top : Nat} {L : List Nat} {S : List Bool}
    (hrow : w0.heap[g4]? = some (rowObj (bools S) 4)) (hM : Marks S L) (hlt : g4 < w0.heap.size) (ht : top ≤ 65536)
    (hK : ∀ (u11 u104 u105 u106 u107 u108 u109 u110 u111 u112 u113 u114 u115 u116 : Value) (wx : World), (wx.ownsRow w0.heap.size 3 1 u11 (asc L top).length (nats (asc L top)) ∧ Below w0.heap.size w0 wx) → K ⟨#[v0, v1, v2, v3, .slice (some ⟨g4, 0, none⟩) 65536 65536, v5, .int .i64 top, v7, v8, v9, v10, u11, .int .i64 top, v13, v14, v15, v16, v17, v18, v19, v20, v21, v22, v23, v24, v25, v26, v27, v28, v29, v30, v31, v32, v33, v34, v35, v36, v37, v38, v39, v40, v41, v42, v43, v44, v45, v46, v47, v48, v49, v50, v51, v52, v53, v54, v55, v56, v57, v58, v59, v60, v61, v62, v63, v64, v65, v66, v67, v68, v69, v70, v71, v72, v73, v74, v75, v76, v77, v78, v79, v80, v81, v82, v83, v84, v85, v86, v87, v88, v89, v90, v91, v92, v93, v94, v95, v96, v97, v98, v99, v100, v101, v102, v103, u104, u105, u106, u107, u108, u109, u110, u111, u112, u113, u114, u115, u116, v117, v118, v119, v120, v121, v122, v123, v124, v125, v126, v127, v128, v129, v130, v131, v132, v133, v134, v135], []⟩ wx) :
    Code.wp Tryd.prog (sub [1, 1, 1, 1, 1, 1, 1, 1, 1, 1, 1, 1, 0, 1] (Tryd.f3.body.getD .skip)) (Exit.then K Q) ⟨#[v0, v1, v2, v3, .slice (some ⟨g4, 0, none⟩) 65536 65536, v5, .int .i64 top, v7, v8, v9, v10, .slice none 0 0, .int .i64 0, v13, v14, v15, v16, v17, v18, v19, v20, v21, v22, v23, v24, v25, v26, v27, v28, v29, v30, v31, v32, v33, v34, v35, v36, v37, v38, v39, v40, v41, v42, v43, v44, v45, v46, v47, v48, v49, v50, v51, v52, v53, v54, v55, v56, v57, v58, v59, v60, v61, v62, v63, v64, v65, v66, v67, v68, v69, v70, v71, v72, v73, v74, v75, v76, v77, v78, v79, v80, v81, v82, v83, v84, v85, v86, v87, v88, v89, v90, v91, v92, v93, v94, v95, v96, v97, v98, v99, v100, v101, v102, v103, v104, v105, v106, v107, v108, v109, v110, v111, v112, v113, v114, v115, v116, v117, v118, v119, v120, v121, v122, v123, v124, v125, v126, v127, v128, v129, v130, v131, v132, v133, v134, v135], []⟩ w0 := by
  obtain ⟨i0, hi, hz0, hz1, hz2⟩ := info_parts info3
  have Hrow := hide hrow
  have HM := hide hM
  clear hrow hM
  conv => arg 2; whnf
  go_wp2
  go_loopg [11, 12] top (fun g s11 s12 wr => ∃ k : Nat, s12 = .int .i64 k ∧ g + k = top ∧ wr.ownsRow w0.heap.size 3 1 s11 (asc L k).length (nats (asc L k)) ∧ Below w0.heap.size w0 wr)
  case atStart => exact ⟨0, rfl, rfl, World.ownsRow_nil _ _ _ _, Below.refl _ _⟩
  case round =>
    obtain ⟨k, rfl, hg, hown, hb⟩ := hrel
    have Hg := hide hg
    have hlen := asc_len L k
    by_cases c : k < top
    · have hs := row_cell (unhide Hrow) k _ (bools_at (F := S) (i := k) (by rw [(unhide HM).len]; omega))
      have hs := (hb.cell (p := ⟨g4, k, none⟩) hlt).trans hs
      have hmk := (unhide HM).mark k (by omega)
      obtain ⟨s, es⟩ : ∃ s, s = S.getD k false := ⟨_, rfl⟩
      rw [← es] at hs hmk
      obtain ⟨oa, cap, rfl⟩ := owns_slice hown
      have hsz := hb.size
      have Hb := hide hb
      clear hg hb es
      cases s with
      | true =>
        have hmem : k ∈ L := by simpa using hmk.symm
        have Hmem := hide hmem
        clear hmk hmem
        go_wp2_with (at_builtin; refine wpList_append_own _ rfl _ _ 22 rfl w0.heap.size 3 i0 (.int .i64 0) 1 8 Tryd.underlying22 hi hz0 hz1 hz2 rfl (by decide) _ _ _ rfl (hown.alloc _) ⟨wr.heap.size, 0, none⟩ 1 1 [.int .i64 k] rfl rfl ?c1 ?c2 ?c3 ?c4 ?c5 ?_)
        case c1 =>
          intro j u hj
          match j, hj with
          | 0, hj => simp at hj; subst hj; simp [Addr.add]
        case c2 => intro u hu; simp at hu; subst hu; rfl
        case c3 => unfold maxLen; omega
        case c4 => omega
        case c5 => simp; omega
        intro v' w1 hown' hgrow _
        have R := hide (asc_keep (unhide Hmem) (unhide Hb) hown hown' hgrow)
        obtain ⟨oa', cap', rfl⟩ := owns_slice hown'
        clear hown' hgrow hown hs
        go_wp2
        go_roundg (gk - 1)
        case measure => have := unhide Hg; omega
        case rel => exact ⟨k + 1, by go_num, by have := unhide Hg; omega, (unhide R).1, (unhide R).2⟩
      | false =>
        have hmem : ¬ k ∈ L := by simpa using hmk.symm
        have e := asc_miss hmem
        have H2 := hide hown
        have He := hide e
        clear hmk hmem e hown
        go_wp2
        go_roundg (gk - 1)
        case measure => have := unhide Hg; omega
        case rel => exact ⟨k + 1, by go_num, by have := unhide Hg; omega, by rw [unhide He]; exact unhide H2, unhide Hb⟩
    · obtain rfl : k = top := by omega
      have H2 := hide (And.intro hown hb)
      clear hg hown hb
      go_wp2
      exact unhide H2

end Go.Proofs.Qxb6616078aDoor
