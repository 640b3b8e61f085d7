/- The first law: a corner's neighbour is the corner mirrored. -/
import Derived.Test.Qxb6614855aDoorF3a
namespace Go.Proofs.Qxb6614855aDoor
open Go.RowKit

theorem fb_same (s : Bool) : (FloatKind.f64.format.order (fb s) (fb s) == some .eq) = true := by cases s <;> kernel_rfl
theorem neg_run (s : Bool) (W : World) : (Op.unary .neg (.float .f64 (fb s))).run Tryd.prog W = .ok (.float .f64 (fb (!s))) W := by cases s <;> kernel_rfl

set_option maxRecDepth 100000 in
set_option maxHeartbeats 4000000 in
theorem mirrorLoop {Q : Exit → Act → World → Prop} {v0 v1 v2 v3 v4 v5 v7 v8 v9 v10 v11 v12 v14 v17 v18 v19 v20 v21 v22 v23 v24 v25 v26 v27 v28 v29 v30 v31 v32 v33 v34 v35 v36 v37 v38 v39 v40 v41 v42 v43 v44 v45 v46 v47 v48 v49 v50 v51 v52 v53 v54 v55 v56 v57 v58 v59 v60 v61 v62 v63 v64 v65 v66 v67 v68 v69 v70 v71 v72 v73 v74 v75 v76 v77 v78 v79 v80 v81 v82 v83 v84 v85 v86 v87 v88 v89 v90 v91 v92 v93 v94 v95 v96 v97 v98 v99 v100 v101 v102 v103 v104 v105 v106 v107 v108 v109 v110 v111 v112 v113 v114 v115 v116 v117 v118 v119 v120 v121 v122 v123 v124 v125 v126 v127 v128 v129 v130 v131 v132 v133 v134 v135 v136 v137 v138 v139 v140 v141 v142 v143 v144 v145 v146 v147 v148 v149 v150 v151 v152 v153 v154 v155 v156 v157 v158 v159 v160 v161 v162 v163 v164 v165 v166 v167 v168 v169 v170 v171 v172 v173 v174 v175 v176 v177 v178 v179 v180 v181 v182 v183 v184 v185 v186 v187 v188 v189 v190 v191 v192 v193 v194 v195 v196 v197 v198 v199 v200 v201 v202 v203 v204 v205 v206 v207 v208 v209 v210 v211 v212 v213 v214 v215 v216 v217 v218 v219 v220 v221 : Value} {w0 : World} {b6 b15 k t j : Nat} (hj4 : j < 4)
    (hat : ∀ i, i < 4 → w0.cell? ⟨b6, i, none⟩ = some (.float .f64 (fb (k.testBit i)))) (hot : ∀ i, i < 4 → w0.cell? ⟨b15, i, none⟩ = some (.float .f64 (fb (t.testBit i))))
    (hs : ∀ i, i < 4 → i ≠ j → t.testBit i = k.testBit i) (hm : t.testBit j = !k.testBit j)
    (hK : ∀ (u2 u112 u113 u114 u115 u116 u117 u118 u119 u120 u121 u122 u123 u124 u125 u126 u127 u128 u129 u130 u131 u132 u133 : Value) (n : Nat), Q .normal ⟨#[v0, v1, u2, v3, v4, v5, .pointer (some ⟨b6, 0, none⟩), v7, v8, v9, v10, v11, v12, .int .i64 j, v14, .pointer (some ⟨b15, 0, none⟩), .int .i64 4, v17, v18, v19, v20, v21, v22, v23, v24, v25, v26, v27, v28, v29, v30, v31, v32, v33, v34, v35, v36, v37, v38, v39, v40, v41, v42, v43, v44, v45, v46, v47, v48, v49, v50, v51, v52, v53, v54, v55, v56, v57, v58, v59, v60, v61, v62, v63, v64, v65, v66, v67, v68, v69, v70, v71, v72, v73, v74, v75, v76, v77, v78, v79, v80, v81, v82, v83, v84, v85, v86, v87, v88, v89, v90, v91, v92, v93, v94, v95, v96, v97, v98, v99, v100, v101, v102, v103, v104, v105, v106, v107, v108, v109, v110, v111, u112, u113, u114, u115, u116, u117, u118, u119, u120, u121, u122, u123, u124, u125, u126, u127, u128, u129, u130, u131, u132, u133, v134, v135, v136, v137, v138, v139, v140, v141, v142, v143, v144, v145, v146, v147, v148, v149, v150, v151, v152, v153, v154, v155, v156, v157, v158, v159, v160, v161, v162, v163, v164, v165, v166, v167, v168, v169, v170, v171, v172, v173, v174, v175, v176, v177, v178, v179, v180, v181, v182, v183, v184, v185, v186, v187, v188, v189, v190, v191, v192, v193, v194, v195, v196, v197, v198, v199, v200, v201, v202, v203, v204, v205, v206, v207, v208, v209, v210, v211, v212, v213, v214, v215, v216, v217, v218, v219, v220, v221], []⟩ (w0.drewN n)) :
    Code.wp Tryd.prog (sub4 [1, 1, 1, 1, 1, 0, 1, 2, 3, 1, 0, 2, 1, 1, 1, 1, 1, 1, 1, 1, 1, 1, 1, 2, 3, 1, 0, 2, 1, 1, 1, 1] (Tryd.f3.body.getD .skip)) Q ⟨#[v0, v1, v2, v3, v4, v5, .pointer (some ⟨b6, 0, none⟩), v7, v8, v9, v10, v11, v12, .int .i64 j, v14, .pointer (some ⟨b15, 0, none⟩), .int .i64 0, v17, v18, v19, v20, v21, v22, v23, v24, v25, v26, v27, v28, v29, v30, v31, v32, v33, v34, v35, v36, v37, v38, v39, v40, v41, v42, v43, v44, v45, v46, v47, v48, v49, v50, v51, v52, v53, v54, v55, v56, v57, v58, v59, v60, v61, v62, v63, v64, v65, v66, v67, v68, v69, v70, v71, v72, v73, v74, v75, v76, v77, v78, v79, v80, v81, v82, v83, v84, v85, v86, v87, v88, v89, v90, v91, v92, v93, v94, v95, v96, v97, v98, v99, v100, v101, v102, v103, v104, v105, v106, v107, v108, v109, v110, v111, v112, v113, v114, v115, v116, v117, v118, v119, v120, v121, v122, v123, v124, v125, v126, v127, v128, v129, v130, v131, v132, v133, v134, v135, v136, v137, v138, v139, v140, v141, v142, v143, v144, v145, v146, v147, v148, v149, v150, v151, v152, v153, v154, v155, v156, v157, v158, v159, v160, v161, v162, v163, v164, v165, v166, v167, v168, v169, v170, v171, v172, v173, v174, v175, v176, v177, v178, v179, v180, v181, v182, v183, v184, v185, v186, v187, v188, v189, v190, v191, v192, v193, v194, v195, v196, v197, v198, v199, v200, v201, v202, v203, v204, v205, v206, v207, v208, v209, v210, v211, v212, v213, v214, v215, v216, v217, v218, v219, v220, v221], []⟩ w0 := by
  have HA := hide (And.intro hat hot)
  have HS := hide (And.intro hs hm)
  clear hat hot hs hm
  conv => arg 2; whnf
  go_wp2
  go_loopg [16] 4 (fun g s16 wr => ∃ i n : Nat, s16 = .int .i64 i ∧ g + i = 4 ∧ wr = w0.drewN n)
  case atStart => exact ⟨0, 0, rfl, rfl, rfl⟩
  case round =>
    obtain ⟨i, n, rfl, hg, rfl⟩ := hrel
    by_cases c : i < 4
    · have h1 := (unhide HA).1 i c
      have h2 := (unhide HA).2 i c
      have c' : (i : Int) < 4 := by omega
      have c0 : (0 : Int) ≤ (i : Int) := by omega
      have Hg := hide hg
      clear hg
      by_cases e : i = j
      · subst e
        rw [(unhide HS).2] at h2
        have hb := fb_same (!k.testBit i)
        obtain ⟨b, eb⟩ : ∃ b, b = k.testBit i := ⟨_, rfl⟩
        rw [← eb] at h1 h2 hb
        have hn := neg_run b
        obtain ⟨x, ex⟩ : ∃ x, x = fb b := ⟨_, rfl⟩
        obtain ⟨y, ey⟩ : ∃ y, y = fb (!b) := ⟨_, rfl⟩
        rw [← ex] at h1 hn
        rw [← ey] at h2 hb hn
        have hb2 : (FloatKind.f64.format.order y y != some .eq) = false := by rw [bne, hb]; rfl
        clear ex ey eb
        go_wp2_with fail
        go_quiet (fail)
        go_wp2
        go_roundg (gk - 1)
        case measure => have := unhide Hg; omega
        case rel => exact ⟨i + 1, n + nq, by go_num, by have := unhide Hg; omega, by first | rfl | simp [World.drewN, Nat.add_assoc]⟩
      · have e' : ¬ (i : Int) = (j : Int) := by omega
        have hb := fb_same (k.testBit i)
        rw [(unhide HS).1 i c e] at h2
        obtain ⟨x, ex⟩ : ∃ x, x = fb (k.testBit i) := ⟨_, rfl⟩
        rw [← ex] at h1 h2 hb
        have hb2 : (FloatKind.f64.format.order x x != some .eq) = false := by rw [bne, hb]; rfl
        clear ex e
        go_wp2_with fail
        go_quiet (fail)
        go_wp2
        go_roundg (gk - 1)
        case measure => have := unhide Hg; omega
        case rel => exact ⟨i + 1, n + nq, by go_num, by have := unhide Hg; omega, by first | rfl | simp [World.drewN, Nat.add_assoc]⟩
    · obtain rfl : i = 4 := by omega
      go_wp2
      all_goals apply hK

end Go.Proofs.Qxb6614855aDoor
