/- prune: the radius of one orthant. -/
import Derived.Test.Qxb6614855aDoorP3
namespace Go.Proofs.Qxb6614855aDoor
open Go.RowKit

theorem max_rad (W : World) : (Builtin.max_ #[27, 27] 27 #[.float .f64 0, .float .f64 (acc 4)]).run Tryd.prog W = .ok (.float .f64 (acc 4)) W := by rfl

set_option maxRecDepth 100000 in
set_option maxHeartbeats 8000000 in
theorem radius {K : Act → World → Prop} {Q : Exit → Act → World → Prop} {v1 v2 v3 v4 v5 v6 v7 v8 v9 v10 v11 v12 v13 v14 v15 v16 v17 v19 v21 v22 v23 v24 v25 v26 v27 v28 v29 v30 v31 v32 v33 v34 v35 v36 v37 v38 v39 v40 v41 v42 v43 v44 v45 v46 v47 v48 v49 v50 v51 v52 v53 v54 v55 v56 v57 v58 v59 v60 v61 v62 v63 v64 v65 v66 v67 v68 v69 v70 v71 v72 v73 v74 v75 v76 v77 v78 v79 v80 v81 v82 v83 v84 v85 v86 v87 v88 v89 v90 v91 v92 v93 v94 v95 v96 v97 v98 v99 v100 v101 v102 v103 v104 v105 v106 v107 v108 v109 v110 v111 v112 v113 v114 v115 v116 v117 v118 v119 v120 v121 v122 v123 v124 v125 v126 v127 v128 v129 v130 v131 v132 v133 v134 v135 v136 v137 v138 v139 v140 v141 v142 v143 v144 v145 v146 v147 v148 v149 v150 v151 v152 v153 v154 v155 v156 v157 v158 v159 v160 v161 v162 v163 v164 v165 v166 v167 v168 v169 v170 v171 v172 v173 v174 v175 v176 v177 v178 v179 v180 v181 v182 v183 v184 v185 v186 v187 v188 v189 v190 v191 v192 v193 v194 v195 v196 v197 v198 v199 v200 v201 v202 v203 v204 v205 v206 v207 v208 v209 v210 v211 v212 v213 v214 v215 v216 v217 v218 v219 v220 v221 v222 v223 v224 v225 v226 v227 v228 v229 v230 v231 v232 v233 v234 v235 v236 v237 v238 v239 v240 v241 v242 v243 v244 v245 v246 v247 v248 v249 v250 v251 v252 v253 v254 v255 v256 v257 v258 v259 v260 v261 v262 v263 v264 v265 v266 v267 v268 v269 v270 v271 v272 v273 v274 v275 v276 v277 v278 v279 v280 v281 v282 v283 v284 v285 v286 v287 v288 v289 v290 v291 v292 v293 v294 v295 v296 v297 v298 v299 v300 v301 v302 v303 v304 v305 v306 v307 v308 v309 v310 v311 v312 v313 v314 v315 v316 v317 v318 v319 v320 v321 v322 v323 v324 v325 v326 v327 v328 v329 v330 v331 v332 v333 v334 v335 v336 v337 v338 v339 v340 v341 v342 v343 v344 v345 v346 v347 v348 v349 v350 v351 v352 v353 v354 v355 : Value} {w0 : World} {b3 bv k : Nat} {f : Nat → Value} (hk16 : k < 16)
    (hz : f (86 + k) = .float .f64 0) (hrow : w0.heap[b3]? = some (rowObj (lay f) 36)) (hV : Corners bv w0)
    (hK : ∀ (u239 u240 u241 u242 u243 u244 u245 u246 u247 u248 u249 u250 u251 u252 u253 u254 u255 u256 u257 u258 u259 : Value) (wx : World), (wx.heap[b3]? = some (rowObj (lay (upd f (86 + k) (.float .f64 (acc 4)))) 36) ∧ Keep b3 w0 wx) → K ⟨#[.pointer (some ⟨b3, 0, none⟩), v1, v2, v3, v4, v5, v6, v7, v8, v9, v10, v11, v12, v13, v14, v15, v16, v17, .pointer (some ⟨bv, k * 12, none⟩), v19, .int .u8 k, v21, v22, v23, v24, v25, v26, v27, v28, v29, v30, v31, v32, v33, v34, v35, v36, v37, v38, v39, v40, v41, v42, v43, v44, v45, v46, v47, v48, v49, v50, v51, v52, v53, v54, v55, v56, v57, v58, v59, v60, v61, v62, v63, v64, v65, v66, v67, v68, v69, v70, v71, v72, v73, v74, v75, v76, v77, v78, v79, v80, v81, v82, v83, v84, v85, v86, v87, v88, v89, v90, v91, v92, v93, v94, v95, v96, v97, v98, v99, v100, v101, v102, v103, v104, v105, v106, v107, v108, v109, v110, v111, v112, v113, v114, v115, v116, v117, v118, v119, v120, v121, v122, v123, v124, v125, v126, v127, v128, v129, v130, v131, v132, v133, v134, v135, v136, v137, v138, v139, v140, v141, v142, v143, v144, v145, v146, v147, v148, v149, v150, v151, v152, v153, v154, v155, v156, v157, v158, v159, v160, v161, v162, v163, v164, v165, v166, v167, v168, v169, v170, v171, v172, v173, v174, v175, v176, v177, v178, v179, v180, v181, v182, v183, v184, v185, v186, v187, v188, v189, v190, v191, v192, v193, v194, v195, v196, v197, v198, v199, v200, v201, v202, v203, v204, v205, v206, v207, v208, v209, v210, v211, v212, v213, v214, v215, v216, v217, v218, v219, v220, v221, v222, v223, v224, v225, v226, v227, v228, v229, v230, v231, v232, v233, v234, v235, v236, v237, v238, u239, u240, u241, u242, u243, u244, u245, u246, u247, u248, u249, u250, u251, u252, u253, u254, u255, u256, u257, u258, u259, v260, v261, v262, v263, v264, v265, v266, v267, v268, v269, v270, v271, v272, v273, v274, v275, v276, v277, v278, v279, v280, v281, v282, v283, v284, v285, v286, v287, v288, v289, v290, v291, v292, v293, v294, v295, v296, v297, v298, v299, v300, v301, v302, v303, v304, v305, v306, v307, v308, v309, v310, v311, v312, v313, v314, v315, v316, v317, v318, v319, v320, v321, v322, v323, v324, v325, v326, v327, v328, v329, v330, v331, v332, v333, v334, v335, v336, v337, v338, v339, v340, v341, v342, v343, v344, v345, v346, v347, v348, v349, v350, v351, v352, v353, v354, v355], []⟩ wx) :
    Code.wp Tryd.prog (sub4 [1, 1, 1, 1, 1, 1, 0, 1, 2, 3, 1, 1, 0, 2, 1, 1, 1, 1, 1, 1, 4, 0] (Tryd.f29.body.getD .skip)) (Exit.then K Q) ⟨#[.pointer (some ⟨b3, 0, none⟩), v1, v2, v3, v4, v5, v6, v7, v8, v9, v10, v11, v12, v13, v14, v15, v16, v17, .pointer (some ⟨bv, k * 12, none⟩), v19, .int .u8 k, v21, v22, v23, v24, v25, v26, v27, v28, v29, v30, v31, v32, v33, v34, v35, v36, v37, v38, v39, v40, v41, v42, v43, v44, v45, v46, v47, v48, v49, v50, v51, v52, v53, v54, v55, v56, v57, v58, v59, v60, v61, v62, v63, v64, v65, v66, v67, v68, v69, v70, v71, v72, v73, v74, v75, v76, v77, v78, v79, v80, v81, v82, v83, v84, v85, v86, v87, v88, v89, v90, v91, v92, v93, v94, v95, v96, v97, v98, v99, v100, v101, v102, v103, v104, v105, v106, v107, v108, v109, v110, v111, v112, v113, v114, v115, v116, v117, v118, v119, v120, v121, v122, v123, v124, v125, v126, v127, v128, v129, v130, v131, v132, v133, v134, v135, v136, v137, v138, v139, v140, v141, v142, v143, v144, v145, v146, v147, v148, v149, v150, v151, v152, v153, v154, v155, v156, v157, v158, v159, v160, v161, v162, v163, v164, v165, v166, v167, v168, v169, v170, v171, v172, v173, v174, v175, v176, v177, v178, v179, v180, v181, v182, v183, v184, v185, v186, v187, v188, v189, v190, v191, v192, v193, v194, v195, v196, v197, v198, v199, v200, v201, v202, v203, v204, v205, v206, v207, v208, v209, v210, v211, v212, v213, v214, v215, v216, v217, v218, v219, v220, v221, v222, v223, v224, v225, v226, v227, v228, v229, v230, v231, v232, v233, v234, v235, v236, v237, v238, v239, v240, v241, v242, v243, v244, v245, v246, v247, v248, v249, v250, v251, v252, v253, v254, v255, v256, v257, v258, v259, v260, v261, v262, v263, v264, v265, v266, v267, v268, v269, v270, v271, v272, v273, v274, v275, v276, v277, v278, v279, v280, v281, v282, v283, v284, v285, v286, v287, v288, v289, v290, v291, v292, v293, v294, v295, v296, v297, v298, v299, v300, v301, v302, v303, v304, v305, v306, v307, v308, v309, v310, v311, v312, v313, v314, v315, v316, v317, v318, v319, v320, v321, v322, v323, v324, v325, v326, v327, v328, v329, v330, v331, v332, v333, v334, v335, v336, v337, v338, v339, v340, v341, v342, v343, v344, v345, v346, v347, v348, v349, v350, v351, v352, v353, v354, v355], []⟩ w0 := by
  have hsf := sf
  have hmr := max_rad
  have c' : (k : Int) < 16 := by omega
  have c0 : (0 : Int) ≤ (k : Int) := by omega
  have c8 := row_cell hrow (86 + k) _ (lay_at _ (by omega))
  rw [hz] at c8
  have f8 := row_free hrow (86 + k)
  have ho := dot_any (fun j => k.testBit j) w0.drew
  unfold pt at ho
  dsimp only at ho
  have a0 := hV k 0 _ hk16 rfl
  have a1 := hV k 1 _ hk16 rfl
  have a2 := hV k 2 _ hk16 rfl
  have a3 := hV k 3 _ hk16 rfl
  have lb3 := lt_of_heap hrow
  have fin : ∀ w2 : World, Below w0.drew.heap.size w0.drew w2 → (w2.setCell ⟨b3, 86 + k, none⟩ (.float .f64 (acc 4))).heap[b3]? = some (rowObj (lay (upd f (86 + k) (.float .f64 (acc 4)))) 36) ∧ Keep b3 w0 (w2.setCell ⟨b3, 86 + k, none⟩ (.float .f64 (acc 4))) := by
    intro w2 hb
    have h2 : w2.heap[b3]? = some (rowObj (lay f) 36) := (hb.block b3 lb3).trans hrow
    have h3 := row_set h2 (86 + k) (.float .f64 (acc 4))
    rw [lay_set _ (by omega)] at h3
    exact ⟨h3, Keep.set (⟨hb.os, hb.tape, hb.output, hb.size, fun i hi _ => hb.block i hi⟩ : Keep b3 w0 w2) _ _⟩
  have Fin := hide fin
  obtain ⟨g0, e0⟩ : ∃ x, x = fb (k.testBit 0) := ⟨_, rfl⟩
  obtain ⟨g1, e1⟩ : ∃ x, x = fb (k.testBit 1) := ⟨_, rfl⟩
  obtain ⟨g2, e2⟩ : ∃ x, x = fb (k.testBit 2) := ⟨_, rfl⟩
  obtain ⟨g3, e3⟩ : ∃ x, x = fb (k.testBit 3) := ⟨_, rfl⟩
  have b0 : w0.cell? ⟨bv, k * 12, none⟩ = some (.float .f64 g0) := by rw [e0]; exact a0
  have b1 : w0.cell? ⟨bv, k * 12 + 1, none⟩ = some (.float .f64 g1) := by rw [e1]; exact a1
  have b2 : w0.cell? ⟨bv, k * 12 + 2, none⟩ = some (.float .f64 g2) := by rw [e2]; exact a2
  have b3' : w0.cell? ⟨bv, k * 12 + 3, none⟩ = some (.float .f64 g3) := by rw [e3]; exact a3
  rw [← e0, ← e1, ← e2, ← e3] at ho
  have Ho := hide ho
  clear ho a0 a1 a2 a3 e0 e1 e2 e3 fin hz hrow hV
  conv => arg 2; whnf
  refine wp_region_noPanic ?_
  go_region_with (go_at_call 34; refine (unhide Ho).mono ?_; rintro e w2 ⟨rfl, hb2⟩; have c8x : w2.cell? ⟨b3, 86 + k, none⟩ = some (.float .f64 0) := (hb2.cell (p := ⟨b3, 86 + k, none⟩) lb3).trans c8; have f8x : w2.frozen? ⟨b3, 86 + k, none⟩ = false := (World.frozen?_of_block (w := w0.drew) (hb2.block b3 lb3)).trans f8)
  all_goals
    refine NoPanic.normal ?_
    go_wp2
    first
      | exact unhide Fin _ hb2
      | (apply hK; exact unhide Fin _ hb2)
      | exact ⟨(unhide Fin _ hb2).1, (unhide Fin _ hb2).2.drew⟩

end Go.Proofs.Qxb6614855aDoor
