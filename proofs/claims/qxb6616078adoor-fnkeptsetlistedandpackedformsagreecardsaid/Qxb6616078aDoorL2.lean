/- The second loop: the marks. -/
import Derived.Test.Qxb6616078aDoorL1
namespace Go.Proofs.Qxb6616078aDoor
open Go.RowKit Plain

set_option maxRecDepth 100000 in
set_option maxHeartbeats 2000000 in
theorem loop2 {K : Act → World → Prop} {v1 v2 v3 v6 v7 v8 v9 v10 v11 v12 v13 v14 v15 v16 v17 v18 v19 v20 v21 v22 v23 v24 v25 v26 v27 v28 v29 v30 v31 v32 v33 v34 v35 v36 v37 v38 v39 v40 v41 v42 v43 v44 v45 v46 v47 v48 v49 v50 v51 v52 v53 v54 v55 v56 v57 v58 v59 v60 v61 v62 v63 v64 v65 v66 v67 v68 v69 v70 v71 v72 v73 v74 v75 v76 v77 v78 v79 v80 v81 v82 v83 v84 v85 v86 v87 v88 v89 v90 v91 v92 v93 v94 v95 v96 v97 v98 v99 v100 v101 v102 v103 v104 v105 v106 v107 v108 v109 v110 v111 v112 v113 v114 v115 v116 v117 v118 v119 v120 v121 v122 v123 v124 v125 v126 v127 v128 v129 v130 v131 v132 v133 v134 v135 : Value} {w0 w1 : World} {oa : Option Addr} {n ca g4 : Nat} {L : List Nat} {S0 : List Bool}
    (hA : ∀ wr, Below w0.heap.size w0 wr → Arg wr oa n (nats L)) (hL : ∀ i, i < n → L.getD i 0 < 65536) (hn : n ≤ 65536) (hg4 : w0.heap.size ≤ g4) (hrow : w1.heap[g4]? = some (rowObj (bools S0) 4)) (hM : Marks S0 []) (hb : Below w0.heap.size w0 w1) (hlt : g4 < w1.heap.size)
    (hK : ∀ (u2 u40 u41 u42 u43 u44 u45 u46 u47 u48 u49 u50 u51 u52 u53 u54 u55 u56 u57 u58 : Value) (wx : World), (∃ S, wx.heap[g4]? = some (rowObj (bools S) 4) ∧ Marks S L ∧ Below w0.heap.size w0 wx ∧ g4 < wx.heap.size) → K ⟨#[.slice oa n ca, v1, u2, v3, .slice (some ⟨g4, 0, none⟩) 65536 65536, .int .i64 n, v6, v7, v8, v9, v10, v11, v12, v13, v14, v15, v16, v17, v18, v19, v20, v21, v22, v23, v24, v25, v26, v27, v28, v29, v30, v31, v32, v33, v34, v35, v36, v37, v38, v39, u40, u41, u42, u43, u44, u45, u46, u47, u48, u49, u50, u51, u52, u53, u54, u55, u56, u57, u58, v59, v60, v61, v62, v63, v64, v65, v66, v67, v68, v69, v70, v71, v72, v73, v74, v75, v76, v77, v78, v79, v80, v81, v82, v83, v84, v85, v86, v87, v88, v89, v90, v91, v92, v93, v94, v95, v96, v97, v98, v99, v100, v101, v102, v103, v104, v105, v106, v107, v108, v109, v110, v111, v112, v113, v114, v115, v116, v117, v118, v119, v120, v121, v122, v123, v124, v125, v126, v127, v128, v129, v130, v131, v132, v133, v134, v135], []⟩ wx) :
    Code.wp Tryd.prog (sub [1, 1, 1, 1, 1, 0, 1] (Tryd.f3.body.getD .skip)) (Exit.then K (bodyPost Tryd.prog Tryd.f3 (fun e w' => e = .returned (.bool true) ∧ Below w0.heap.size w0 w'))) ⟨#[.slice oa n ca, v1, v2, v3, .slice (some ⟨g4, 0, none⟩) 65536 65536, .int .i64 0, v6, v7, v8, v9, v10, v11, v12, v13, v14, v15, v16, v17, v18, v19, v20, v21, v22, v23, v24, v25, v26, v27, v28, v29, v30, v31, v32, v33, v34, v35, v36, v37, v38, v39, v40, v41, v42, v43, v44, v45, v46, v47, v48, v49, v50, v51, v52, v53, v54, v55, v56, v57, v58, v59, v60, v61, v62, v63, v64, v65, v66, v67, v68, v69, v70, v71, v72, v73, v74, v75, v76, v77, v78, v79, v80, v81, v82, v83, v84, v85, v86, v87, v88, v89, v90, v91, v92, v93, v94, v95, v96, v97, v98, v99, v100, v101, v102, v103, v104, v105, v106, v107, v108, v109, v110, v111, v112, v113, v114, v115, v116, v117, v118, v119, v120, v121, v122, v123, v124, v125, v126, v127, v128, v129, v130, v131, v132, v133, v134, v135], []⟩ w1 := by
  have hl : L.length = n := by have := (hA w1 hb).len; rwa [nats_len] at this
  have HA := hide hA
  have Hl := hide hl
  have HL := hide hL
  have H0 := hide (And.intro hrow (And.intro hM hb))
  clear hA hl hL hrow hM hb
  conv => arg 2; whnf
  go_wp2
  go_loopg [5] n (fun g s5 wr => ∃ k : Nat, s5 = .int .i64 k ∧ g + k = n ∧ (∃ S, wr.heap[g4]? = some (rowObj (bools S) 4) ∧ Marks S (L.take k) ∧ Below w0.heap.size w0 wr ∧ g4 < wr.heap.size))
  case atStart => exact ⟨0, rfl, rfl, S0, (unhide H0).1, by simpa using (unhide H0).2.1, (unhide H0).2.2, hlt⟩
  case round =>
    obtain ⟨k, rfl, hg, S, hrow, hM, hb, hlt'⟩ := hrel
    have Hg := hide hg
    by_cases c : k < n
    · obtain ⟨b, o, rfl, _, hcx⟩ := (unhide HA wr hb).plain (by omega)
      have hx := hcx k _ (nats_at (F := L) (i := k) (by rw [unhide Hl]; exact c))
      have hx6 := unhide HL k c
      have htk := take_step L k (by rw [unhide Hl]; exact c)
      obtain ⟨x, ex⟩ : ∃ x : Nat, x = L.getD k 0 := ⟨_, rfl⟩
      rw [← ex] at hx hx6 htk
      have hs := row_cell hrow x _ (bools_at (F := S) (i := x) (by rw [hM.len]; exact hx6))
      have hf := row_free hrow x
      have hset := row_set hrow x (.bool true)
      rw [bools_set] at hset
      have hM2 := hM.set x hx6
      rw [← htk] at hM2
      obtain ⟨s, es⟩ : ∃ s, s = S.getD x false := ⟨_, rfl⟩
      rw [← es] at hs
      have H2 := hide (And.intro hset (And.intro hM2 hb))
      have hb' := hide hb
      clear ex hg hcx hset hM2 hM hrow htk es hb
      cases s with
      | true =>
        go_wp2
        go_ret
        exact ⟨rfl, unhide hb'⟩
      | false =>
        go_wp2
        go_roundg (gk - 1)
        case measure => have := unhide Hg; omega
        case rel => exact ⟨k + 1, by go_num, by have := unhide Hg; omega, _, (unhide H2).1, (unhide H2).2.1, (unhide H2).2.2.setCell (by simpa using hg4) _, by simpa [World.setCell] using hlt'⟩
    · obtain rfl : k = n := by omega
      have e : L.take k = L := by rw [← unhide Hl, List.take_length]
      rw [e] at hM
      have hex : ∃ S, wr.heap[g4]? = some (rowObj (bools S) 4) ∧ Marks S L ∧ Below w0.heap.size w0 wr ∧ g4 < wr.heap.size := ⟨S, hrow, hM, hb, hlt'⟩
      have Hex := hide hex
      clear hg hrow hM hb e hex
      go_wp2
      exact unhide Hex

end Go.Proofs.Qxb6616078aDoor
