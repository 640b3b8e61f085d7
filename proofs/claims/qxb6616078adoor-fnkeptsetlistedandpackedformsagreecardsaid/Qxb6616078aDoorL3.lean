/- The third loop: the highest member, and one. -/
import Derived.Test.Qxb6616078aDoorL1
namespace Go.Proofs.Qxb6616078aDoor
open Go.RowKit Plain

set_option maxRecDepth 100000 in
set_option maxHeartbeats 2000000 in
theorem loop3 {K : Act → World → Prop} {Q : Exit → Act → World → Prop} {v1 v2 v3 v4 v5 v8 v9 v10 v11 v12 v13 v14 v15 v16 v17 v18 v19 v20 v21 v22 v23 v24 v25 v26 v27 v28 v29 v30 v31 v32 v33 v34 v35 v36 v37 v38 v39 v40 v41 v42 v43 v44 v45 v46 v47 v48 v49 v50 v51 v52 v53 v54 v55 v56 v57 v58 v59 v60 v61 v62 v63 v64 v65 v66 v67 v68 v69 v70 v71 v72 v73 v74 v75 v76 v77 v78 v79 v80 v81 v82 v83 v84 v85 v86 v87 v88 v89 v90 v91 v92 v93 v94 v95 v96 v97 v98 v99 v100 v101 v102 v103 v104 v105 v106 v107 v108 v109 v110 v111 v112 v113 v114 v115 v116 v117 v118 v119 v120 v121 v122 v123 v124 v125 v126 v127 v128 v129 v130 v131 v132 v133 v134 v135 : Value} {w : World} {oa : Option Addr} {n ca : Nat} {L : List Nat}
    (hA : Arg w oa n (nats L)) (hL : ∀ i, i < n → L.getD i 0 < 65536) (hn : n ≤ 65536)
    (hK : ∀ (top : Nat) (u61 u62 u63 u64 u65 u66 u67 u68 u69 u70 u71 u72 u73 u74 u75 u76 u77 u78 : Value), (top ≤ 65536 ∧ ∀ i, i < n → L.getD i 0 < top) → K ⟨#[.slice oa n ca, v1, v2, v3, v4, v5, .int .i64 (top : Nat), .int .i64 n, v8, v9, v10, v11, v12, v13, v14, v15, v16, v17, v18, v19, v20, v21, v22, v23, v24, v25, v26, v27, v28, v29, v30, v31, v32, v33, v34, v35, v36, v37, v38, v39, v40, v41, v42, v43, v44, v45, v46, v47, v48, v49, v50, v51, v52, v53, v54, v55, v56, v57, v58, v59, v60, u61, u62, u63, u64, u65, u66, u67, u68, u69, u70, u71, u72, u73, u74, u75, u76, u77, u78, v79, v80, v81, v82, v83, v84, v85, v86, v87, v88, v89, v90, v91, v92, v93, v94, v95, v96, v97, v98, v99, v100, v101, v102, v103, v104, v105, v106, v107, v108, v109, v110, v111, v112, v113, v114, v115, v116, v117, v118, v119, v120, v121, v122, v123, v124, v125, v126, v127, v128, v129, v130, v131, v132, v133, v134, v135], []⟩ w) :
    Code.wp Tryd.prog (sub [1, 1, 1, 1, 1, 1, 1, 1, 0, 1] (Tryd.f3.body.getD .skip)) (Exit.then K Q) ⟨#[.slice oa n ca, v1, v2, v3, v4, v5, .int .i64 0, .int .i64 0, v8, v9, v10, v11, v12, v13, v14, v15, v16, v17, v18, v19, v20, v21, v22, v23, v24, v25, v26, v27, v28, v29, v30, v31, v32, v33, v34, v35, v36, v37, v38, v39, v40, v41, v42, v43, v44, v45, v46, v47, v48, v49, v50, v51, v52, v53, v54, v55, v56, v57, v58, v59, v60, v61, v62, v63, v64, v65, v66, v67, v68, v69, v70, v71, v72, v73, v74, v75, v76, v77, v78, v79, v80, v81, v82, v83, v84, v85, v86, v87, v88, v89, v90, v91, v92, v93, v94, v95, v96, v97, v98, v99, v100, v101, v102, v103, v104, v105, v106, v107, v108, v109, v110, v111, v112, v113, v114, v115, v116, v117, v118, v119, v120, v121, v122, v123, v124, v125, v126, v127, v128, v129, v130, v131, v132, v133, v134, v135], []⟩ w := by
  have hl : L.length = n := by have := hA.len; rwa [nats_len] at this
  have HA := hide hA
  have Hl := hide hl
  have HL := hide hL
  clear hA hl hL
  conv => arg 2; whnf
  go_wp2
  go_loopg [6, 7] n (fun g s6 s7 wr => ∃ k t : Nat, s6 = .int .i64 t ∧ s7 = .int .i64 k ∧ g + k = n ∧ wr = w ∧ t ≤ 65536 ∧ (∀ i, i < k → L.getD i 0 < t))
  case atStart => exact ⟨0, 0, rfl, rfl, rfl, rfl, by omega, fun i hi => by omega⟩
  case round =>
    obtain ⟨k, t, rfl, rfl, hg, rfl, ht, hall⟩ := hrel
    have Hall := hide hall
    have Hg := hide hg
    by_cases c : k < n
    · obtain ⟨b, o, rfl, _, hcx⟩ := (unhide HA).plain (by omega)
      have hx := hcx k _ (nats_at (F := L) (i := k) (by rw [unhide Hl]; exact c))
      have hx6 := unhide HL k c
      obtain ⟨x, ex⟩ : ∃ x : Nat, x = L.getD k 0 := ⟨_, rfl⟩
      rw [← ex] at hx hx6
      have Ex := hide ex
      clear ex hall hg hcx
      by_cases c1 : t < x + 1
      · have c1' : (t : Int) < (x : Int) + 1 := by omega
        go_wp2
        go_roundg (gk - 1)
        case measure => have := unhide Hg; omega
        case rel =>
          refine ⟨k + 1, x + 1, by go_num, by go_num, by have := unhide Hg; omega, rfl, by omega, fun i hi => ?_⟩
          by_cases e : i = k
          · subst e
            rw [← unhide Ex]
            omega
          · have := unhide Hall i (by omega)
            omega
      · have c1' : (x : Int) + 1 ≤ (t : Int) := by omega
        go_wp2
        go_roundg (gk - 1)
        case measure => have := unhide Hg; omega
        case rel =>
          refine ⟨k + 1, t, by go_num, by go_num, by have := unhide Hg; omega, rfl, ht, fun i hi => ?_⟩
          by_cases e : i = k
          · subst e
            rw [← unhide Ex]
            omega
          · exact unhide Hall i (by omega)
    · obtain rfl : k = n := by omega
      have H2 := hide (And.intro ht hall)
      clear hall hg ht
      go_wp2
      exact unhide H2

end Go.Proofs.Qxb6616078aDoor
