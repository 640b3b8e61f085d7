/- The first law: the signs of a corner. -/
import Derived.Test.Qxb6614855aDoorA2
namespace Go.Proofs.Qxb6614855aDoor
open Go.RowKit

theorem eq_neg (s : Bool) : (FloatKind.f64.format.order (fb s) 13970166044103278592 == some .eq) = s := by cases s <;> kernel_rfl
theorem eq_pos (s : Bool) : (FloatKind.f64.format.order (fb s) 4746794007248502784 == some .eq) = !s := by cases s <;> kernel_rfl
theorem or_i64 : ∀ a : Fin 16, ∀ j : Fin 4, bits BinOp.or IntKind.i64 (a.val : Int) (wrap64 (2 ^ j.val)) = ((a.val ||| 2 ^ j.val : Nat) : Int) := by decide +kernel

set_option maxRecDepth 100000 in
set_option maxHeartbeats 4000000 in
theorem signsLoop {K : Act → World → Prop} {Q : Exit → Act → World → Prop} {v0 v1 v2 v3 v4 v5 v9 v10 v11 v12 v13 v14 v15 v16 v17 v18 v19 v20 v21 v22 v23 v24 v25 v26 v27 v28 v29 v30 v31 v32 v33 v34 v35 v36 v37 v38 v39 v40 v41 v42 v43 v44 v45 v46 v47 v48 v49 v50 v51 v52 v53 v54 v55 v56 v57 v58 v59 v60 v61 v62 v63 v64 v65 v66 v67 v68 v69 v70 v71 v72 v73 v74 v75 v76 v77 v78 v79 v80 v81 v82 v83 v84 v85 v86 v87 v88 v89 v90 v91 v92 v93 v94 v95 v96 v97 v98 v99 v100 v101 v102 v103 v104 v105 v106 v107 v108 v109 v110 v111 v112 v113 v114 v115 v116 v117 v118 v119 v120 v121 v122 v123 v124 v125 v126 v127 v128 v129 v130 v131 v132 v133 v134 v135 v136 v137 v138 v139 v140 v141 v142 v143 v144 v145 v146 v147 v148 v149 v150 v151 v152 v153 v154 v155 v156 v157 v158 v159 v160 v161 v162 v163 v164 v165 v166 v167 v168 v169 v170 v171 v172 v173 v174 v175 v176 v177 v178 v179 v180 v181 v182 v183 v184 v185 v186 v187 v188 v189 v190 v191 v192 v193 v194 v195 v196 v197 v198 v199 v200 v201 v202 v203 v204 v205 v206 v207 v208 v209 v210 v211 v212 v213 v214 v215 v216 v217 v218 v219 v220 v221 : Value} {w0 : World} {b6 k : Nat} (hk16 : k < 16)
    (hat : ∀ j, j < 4 → w0.cell? ⟨b6, j, none⟩ = some (.float .f64 (fb (k.testBit j))))
    (hK : ∀ (u2 u42 u43 u44 u45 u46 u47 u48 u49 u50 u51 u52 u53 u54 u55 u56 u57 : Value), K ⟨#[v0, v1, u2, v3, v4, v5, .pointer (some ⟨b6, 0, none⟩), .int .i64 k, .int .i64 4, v9, v10, v11, v12, v13, v14, v15, v16, v17, v18, v19, v20, v21, v22, v23, v24, v25, v26, v27, v28, v29, v30, v31, v32, v33, v34, v35, v36, v37, v38, v39, v40, v41, u42, u43, u44, u45, u46, u47, u48, u49, u50, u51, u52, u53, u54, u55, u56, u57, v58, v59, v60, v61, v62, v63, v64, v65, v66, v67, v68, v69, v70, v71, v72, v73, v74, v75, v76, v77, v78, v79, v80, v81, v82, v83, v84, v85, v86, v87, v88, v89, v90, v91, v92, v93, v94, v95, v96, v97, v98, v99, v100, v101, v102, v103, v104, v105, v106, v107, v108, v109, v110, v111, v112, v113, v114, v115, v116, v117, v118, v119, v120, v121, v122, v123, v124, v125, v126, v127, v128, v129, v130, v131, v132, v133, v134, v135, v136, v137, v138, v139, v140, v141, v142, v143, v144, v145, v146, v147, v148, v149, v150, v151, v152, v153, v154, v155, v156, v157, v158, v159, v160, v161, v162, v163, v164, v165, v166, v167, v168, v169, v170, v171, v172, v173, v174, v175, v176, v177, v178, v179, v180, v181, v182, v183, v184, v185, v186, v187, v188, v189, v190, v191, v192, v193, v194, v195, v196, v197, v198, v199, v200, v201, v202, v203, v204, v205, v206, v207, v208, v209, v210, v211, v212, v213, v214, v215, v216, v217, v218, v219, v220, v221], []⟩ w0) :
    Code.wp Tryd.prog (sub4 [1, 1, 1, 1, 1, 0, 1, 2, 3, 1, 0, 2, 1, 1, 0, 1] (Tryd.f3.body.getD .skip)) (Exit.then K Q) ⟨#[v0, v1, v2, v3, v4, v5, .pointer (some ⟨b6, 0, none⟩), .int .i64 0, .int .i64 0, v9, v10, v11, v12, v13, v14, v15, v16, v17, v18, v19, v20, v21, v22, v23, v24, v25, v26, v27, v28, v29, v30, v31, v32, v33, v34, v35, v36, v37, v38, v39, v40, v41, v42, v43, v44, v45, v46, v47, v48, v49, v50, v51, v52, v53, v54, v55, v56, v57, v58, v59, v60, v61, v62, v63, v64, v65, v66, v67, v68, v69, v70, v71, v72, v73, v74, v75, v76, v77, v78, v79, v80, v81, v82, v83, v84, v85, v86, v87, v88, v89, v90, v91, v92, v93, v94, v95, v96, v97, v98, v99, v100, v101, v102, v103, v104, v105, v106, v107, v108, v109, v110, v111, v112, v113, v114, v115, v116, v117, v118, v119, v120, v121, v122, v123, v124, v125, v126, v127, v128, v129, v130, v131, v132, v133, v134, v135, v136, v137, v138, v139, v140, v141, v142, v143, v144, v145, v146, v147, v148, v149, v150, v151, v152, v153, v154, v155, v156, v157, v158, v159, v160, v161, v162, v163, v164, v165, v166, v167, v168, v169, v170, v171, v172, v173, v174, v175, v176, v177, v178, v179, v180, v181, v182, v183, v184, v185, v186, v187, v188, v189, v190, v191, v192, v193, v194, v195, v196, v197, v198, v199, v200, v201, v202, v203, v204, v205, v206, v207, v208, v209, v210, v211, v212, v213, v214, v215, v216, v217, v218, v219, v220, v221], []⟩ w0 := by
  have HA := hide hat
  clear hat
  conv => arg 2; whnf
  go_wp2
  go_loopg [7, 8] 4 (fun g s7 s8 wr => ∃ j : Nat, s7 = .int .i64 (orth (fun i => k.testBit i) j : Nat) ∧ s8 = .int .i64 j ∧ g + j = 4 ∧ wr = w0)
  case atStart => exact ⟨0, rfl, rfl, rfl, rfl⟩
  case round =>
    obtain ⟨j, rfl, rfl, hg, rfl⟩ := hrel
    by_cases c : j < 4
    · have hx := unhide HA j c
      have hp := eq_pos (k.testBit j)
      have hn := eq_neg (k.testBit j)
      have hlt := orth_lt (fun i => k.testBit i) j
      have ho : orth (fun i => k.testBit i) (j + 1) = if k.testBit j then orth (fun i => k.testBit i) j ||| 2 ^ j else orth (fun i => k.testBit i) j := rfl
      have hlt : orth (fun i => k.testBit i) j < 16 := Nat.lt_of_lt_of_le hlt (Nat.pow_le_pow_right (n := 2) (by decide) (show j ≤ 4 by omega))
      have hor := or_i64 ⟨orth (fun i => k.testBit i) j, hlt⟩ ⟨j, c⟩
      dsimp only at hor
      obtain ⟨a, ea⟩ : ∃ a, a = orth (fun i => k.testBit i) j := ⟨_, rfl⟩
      rw [← ea] at hor ho hlt ⊢
      obtain ⟨b, eb⟩ : ∃ b, b = k.testBit j := ⟨_, rfl⟩
      rw [← eb] at hx hp hn ho
      obtain ⟨x, ex⟩ : ∃ x, x = fb b := ⟨_, rfl⟩
      rw [← ex] at hx hp hn
      have c' : (j : Int) < 4 := by omega
      have c0 : (0 : Int) ≤ (j : Int) := by omega
      have Hg := hide hg
      have Ho := hide ho
      clear eb ex ea hg ho
      cases b with
      | true =>
        go_wp2
        go_roundg (gk - 1)
        case measure => have := unhide Hg; omega
        case rel => exact ⟨j + 1, by rw [unhide Ho]; simp, by go_num, by have := unhide Hg; omega, rfl⟩
      | false =>
        have hp' : (FloatKind.f64.format.order x 4746794007248502784 == some .eq) = true := hp
        have hp2 : (FloatKind.f64.format.order x 4746794007248502784 != some .eq) = false := by rw [bne, hp']; rfl
        clear hp
        go_wp2
        go_roundg (gk - 1)
        case measure => have := unhide Hg; omega
        case rel => exact ⟨j + 1, by rw [unhide Ho]; simp, by go_num, by have := unhide Hg; omega, rfl⟩
    · obtain rfl : j = 4 := by omega
      have hos : orth (fun i => k.testBit i) 4 = k := orth_self ⟨k, hk16⟩
      rw [hos]
      clear hos
      go_wp2
      all_goals apply hK

end Go.Proofs.Qxb6614855aDoor
