/- The first law: the bounds that a corner should have. -/
import Derived.Test.Qxb6614855aDoorF3a
namespace Go.Proofs.Qxb6614855aDoor
open Go.RowKit

def wantL (m : Nat) : List Value := [.int .u32 m, .int .u32 0, .int .u32 0]

set_option maxRecDepth 100000 in
set_option maxHeartbeats 4000000 in
theorem wantLoop {K : Act → World → Prop} {Q : Exit → Act → World → Prop} {v0 v1 v2 v3 v4 v5 v7 v8 v11 v12 v13 v14 v15 v16 v17 v18 v19 v20 v21 v22 v23 v24 v25 v26 v27 v28 v29 v30 v31 v32 v33 v34 v35 v36 v37 v38 v39 v40 v41 v42 v43 v44 v45 v46 v47 v48 v49 v50 v51 v52 v53 v54 v55 v56 v57 v58 v59 v60 v61 v62 v63 v64 v65 v66 v67 v68 v69 v70 v71 v72 v73 v74 v75 v76 v77 v78 v79 v80 v81 v82 v83 v84 v85 v86 v87 v88 v89 v90 v91 v92 v93 v94 v95 v96 v97 v98 v99 v100 v101 v102 v103 v104 v105 v106 v107 v108 v109 v110 v111 v112 v113 v114 v115 v116 v117 v118 v119 v120 v121 v122 v123 v124 v125 v126 v127 v128 v129 v130 v131 v132 v133 v134 v135 v136 v137 v138 v139 v140 v141 v142 v143 v144 v145 v146 v147 v148 v149 v150 v151 v152 v153 v154 v155 v156 v157 v158 v159 v160 v161 v162 v163 v164 v165 v166 v167 v168 v169 v170 v171 v172 v173 v174 v175 v176 v177 v178 v179 v180 v181 v182 v183 v184 v185 v186 v187 v188 v189 v190 v191 v192 v193 v194 v195 v196 v197 v198 v199 v200 v201 v202 v203 v204 v205 v206 v207 v208 v209 v210 v211 v212 v213 v214 v215 v216 v217 v218 v219 v220 v221 : Value} {w0 : World} {b6 b9 k : Nat}
    (hat : ∀ j, j < 4 → w0.cell? ⟨b6, j, none⟩ = some (.float .f64 (fb (k.testBit j)))) (hne : b6 ≠ b9) (hw : w0.heap[b9]? = some (rowObj (wantL 0) 42))
    (hK : ∀ (u11 u63 u64 u65 u66 u67 u68 u69 u70 u71 u72 u73 u74 u75 u76 u77 u78 u79 u80 : Value) (wx : World), (wx.heap[b9]? = some (rowObj (wantL (mask k)) 42) ∧ Keep b9 w0 wx) → K ⟨#[v0, v1, v2, v3, v4, v5, .pointer (some ⟨b6, 0, none⟩), v7, v8, .pointer (some ⟨b9, 0, none⟩), .int .i64 4, u11, v12, v13, v14, v15, v16, v17, v18, v19, v20, v21, v22, v23, v24, v25, v26, v27, v28, v29, v30, v31, v32, v33, v34, v35, v36, v37, v38, v39, v40, v41, v42, v43, v44, v45, v46, v47, v48, v49, v50, v51, v52, v53, v54, v55, v56, v57, v58, v59, v60, v61, v62, u63, u64, u65, u66, u67, u68, u69, u70, u71, u72, u73, u74, u75, u76, u77, u78, u79, u80, v81, v82, v83, v84, v85, v86, v87, v88, v89, v90, v91, v92, v93, v94, v95, v96, v97, v98, v99, v100, v101, v102, v103, v104, v105, v106, v107, v108, v109, v110, v111, v112, v113, v114, v115, v116, v117, v118, v119, v120, v121, v122, v123, v124, v125, v126, v127, v128, v129, v130, v131, v132, v133, v134, v135, v136, v137, v138, v139, v140, v141, v142, v143, v144, v145, v146, v147, v148, v149, v150, v151, v152, v153, v154, v155, v156, v157, v158, v159, v160, v161, v162, v163, v164, v165, v166, v167, v168, v169, v170, v171, v172, v173, v174, v175, v176, v177, v178, v179, v180, v181, v182, v183, v184, v185, v186, v187, v188, v189, v190, v191, v192, v193, v194, v195, v196, v197, v198, v199, v200, v201, v202, v203, v204, v205, v206, v207, v208, v209, v210, v211, v212, v213, v214, v215, v216, v217, v218, v219, v220, v221], []⟩ wx) :
    Code.wp Tryd.prog (sub4 [1, 1, 1, 1, 1, 0, 1, 2, 3, 1, 0, 2, 1, 1, 1, 1, 1, 1, 0, 1] (Tryd.f3.body.getD .skip)) (Exit.then K Q) ⟨#[v0, v1, v2, v3, v4, v5, .pointer (some ⟨b6, 0, none⟩), v7, v8, .pointer (some ⟨b9, 0, none⟩), .int .i64 0, v11, v12, v13, v14, v15, v16, v17, v18, v19, v20, v21, v22, v23, v24, v25, v26, v27, v28, v29, v30, v31, v32, v33, v34, v35, v36, v37, v38, v39, v40, v41, v42, v43, v44, v45, v46, v47, v48, v49, v50, v51, v52, v53, v54, v55, v56, v57, v58, v59, v60, v61, v62, v63, v64, v65, v66, v67, v68, v69, v70, v71, v72, v73, v74, v75, v76, v77, v78, v79, v80, v81, v82, v83, v84, v85, v86, v87, v88, v89, v90, v91, v92, v93, v94, v95, v96, v97, v98, v99, v100, v101, v102, v103, v104, v105, v106, v107, v108, v109, v110, v111, v112, v113, v114, v115, v116, v117, v118, v119, v120, v121, v122, v123, v124, v125, v126, v127, v128, v129, v130, v131, v132, v133, v134, v135, v136, v137, v138, v139, v140, v141, v142, v143, v144, v145, v146, v147, v148, v149, v150, v151, v152, v153, v154, v155, v156, v157, v158, v159, v160, v161, v162, v163, v164, v165, v166, v167, v168, v169, v170, v171, v172, v173, v174, v175, v176, v177, v178, v179, v180, v181, v182, v183, v184, v185, v186, v187, v188, v189, v190, v191, v192, v193, v194, v195, v196, v197, v198, v199, v200, v201, v202, v203, v204, v205, v206, v207, v208, v209, v210, v211, v212, v213, v214, v215, v216, v217, v218, v219, v220, v221], []⟩ w0 := by
  have HA := hide hat
  have HW := hide hw
  clear hat hw
  conv => arg 2; whnf
  go_wp2
  go_loopg [10] 4 (fun g s10 wr => ∃ j : Nat, s10 = .int .i64 j ∧ g + j = 4 ∧ wr.heap[b9]? = some (rowObj (wantL (maskTo k j)) 42) ∧ Keep b9 w0 wr)
  case atStart => exact ⟨0, rfl, rfl, unhide HW, Keep.refl _ _⟩
  case round =>
    obtain ⟨j, rfl, hg, hr, hk⟩ := hrel
    by_cases c : j < 4
    · have hx : wr.cell? ⟨b6, j, none⟩ = some (.float .f64 (fb (k.testBit j))) := (World.cell?_of_block (w := w0) (hk.block b6 (lt_of_cell (unhide HA j c)) hne)).trans (unhide HA j c)
      have hn := neg_of (k.testBit j)
      have hm := maskTo_lt k j (by omega)
      have hq : 2 * j + sideOf k j < 8 := by unfold sideOf; split <;> omega
      have hor := or_u32 ⟨maskTo k j, hm⟩ ⟨2 * j + sideOf k j, hq⟩
      have hor3 : maskTo k (j + 1) = maskTo k j ||| 2 ^ (2 * j + sideOf k j) := rfl
      dsimp only at hor
      have c9 := row_cell hr 0 _ rfl
      have f9 := row_free hr 0
      have s9 := row_set hr 0 (.int .u32 (maskTo k (j + 1) : Nat))
      have s9' : (wantL (maskTo k j)).set 0 (.int .u32 (maskTo k (j + 1) : Nat)) = wantL (maskTo k (j + 1)) := rfl
      rw [s9', hor3] at s9
      obtain ⟨y, ey⟩ : ∃ y, y = maskTo k j ||| 2 ^ (2 * j + sideOf k j) := ⟨_, rfl⟩
      rw [← ey] at hor s9
      have Hy := hide (hor3.trans ey.symm)
      obtain ⟨m, em⟩ : ∃ m, m = maskTo k j := ⟨_, rfl⟩
      rw [← em] at hor c9 hm
      have H1 := hide (And.intro s9 hk)
      have hsd : sideOf k j = if k.testBit j then 1 else 0 := rfl
      obtain ⟨b, eb⟩ : ∃ b, b = k.testBit j := ⟨_, rfl⟩
      rw [← eb] at hx hn hsd
      rw [hsd] at hor
      obtain ⟨x, ex⟩ : ∃ x, x = fb b := ⟨_, rfl⟩
      rw [← ex] at hx hn
      have c' : (j : Int) < 4 := by omega
      have c0 : (0 : Int) ≤ (j : Int) := by omega
      have Hg := hide hg
      clear eb ex hg hr hk s9 s9' hor3 ey em hq hsd
      cases b with
      | true =>
        simp only [if_true] at hor
        go_wp2
        have ep : (2 * (j : Int) + 1) = (((2 * j + 1 : Nat)) : Int) := by omega
        have hp8 : 2 * j + 1 < 8 := by omega
        rw [ep]
        obtain ⟨p, hp⟩ : ∃ p, p = 2 * j + 1 := ⟨_, rfl⟩
        rw [← hp] at hor hp8 ⊢
        clear hp ep
        have p1 : (p : Int) < 8 := by omega
        have p0 : (0 : Int) ≤ (p : Int) := by omega
        refine wp_region_noPanic ?_
        go_region
        all_goals
          refine NoPanic.normal ?_
          go_wp2
          go_roundg (gk - 1)
          case measure => have := unhide Hg; omega
          case rel => exact ⟨j + 1, by go_num, by have := unhide Hg; omega, by rw [unhide Hy]; exact (unhide H1).1, ((unhide H1).2.set _ _).drew⟩
      | false =>
        simp only [Bool.false_eq_true, if_false, Nat.add_zero] at hor
        go_wp2
        have ep : (2 * (j : Int)) = (((2 * j : Nat)) : Int) := by omega
        have hp8 : 2 * j < 8 := by omega
        rw [ep]
        obtain ⟨p, hp⟩ : ∃ p, p = 2 * j := ⟨_, rfl⟩
        rw [← hp] at hor hp8 ⊢
        clear hp ep
        have p1 : (p : Int) < 8 := by omega
        have p0 : (0 : Int) ≤ (p : Int) := by omega
        refine wp_region_noPanic ?_
        go_region
        all_goals
          refine NoPanic.normal ?_
          go_wp2
          go_roundg (gk - 1)
          case measure => have := unhide Hg; omega
          case rel => exact ⟨j + 1, by go_num, by have := unhide Hg; omega, by rw [unhide Hy]; exact (unhide H1).1, ((unhide H1).2.set _ _).drew⟩
    · obtain rfl : j = 4 := by omega
      have H2 := hide (And.intro hr hk)
      clear hg hr hk
      go_wp2
      exact unhide H2

end Go.Proofs.Qxb6614855aDoor
