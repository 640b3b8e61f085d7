/- prune: the extents and radii are laid to nothing: they are nothing already. -/
import Derived.Test.Qxb6614855aDoorP3
namespace Go.Proofs.Qxb6614855aDoor
open Go.RowKit

theorem same_store {w : World} {b3 i : Nat} {f : Nat → Value} {x : Value} (h : w.heap[b3]? = some (rowObj (lay f) 36)) (hi : i < 205) (hx : f i = x) : (w.setCell ⟨b3, i, none⟩ x).heap[b3]? = some (rowObj (lay f) 36) := by
  rw [row_set h i x, lay_set _ hi]
  have : upd f i x = f := by
    funext j
    unfold upd
    split
    · rename_i e; rw [e, hx]
    · rfl
  rw [this]

theorem lost_bit : ∀ o : Fin 16, bits BinOp.and IntKind.u16 ((65535 : Int) / 2 ^ o.val) 1 = 1 := by decide +kernel

theorem five {w0 wr : World} {b3 o : Nat} {f : Nat → Value} (hr : wr.heap[b3]? = some (rowObj (lay f) 36)) (hk : Keep b3 w0 wr) (hz : ∀ j, 22 ≤ j → j < 102 → f j = .float .f64 0) (c : o < 16) :
    ((((((wr.setCell ⟨b3, 22 + o * 4, none⟩ (.float .f64 0)).setCell ⟨b3, 22 + o * 4 + 1, none⟩ (.float .f64 0)).setCell ⟨b3, 22 + o * 4 + 2, none⟩ (.float .f64 0)).setCell ⟨b3, 22 + o * 4 + 3, none⟩ (.float .f64 0)).setCell ⟨b3, 86 + o, none⟩ (.float .f64 0))).heap[b3]? = some (rowObj (lay f) 36) ∧
    Keep b3 w0 (((((wr.setCell ⟨b3, 22 + o * 4, none⟩ (.float .f64 0)).setCell ⟨b3, 22 + o * 4 + 1, none⟩ (.float .f64 0)).setCell ⟨b3, 22 + o * 4 + 2, none⟩ (.float .f64 0)).setCell ⟨b3, 22 + o * 4 + 3, none⟩ (.float .f64 0)).setCell ⟨b3, 86 + o, none⟩ (.float .f64 0)) :=
  ⟨same_store (same_store (same_store (same_store (same_store hr (by omega) (hz _ (by omega) (by omega))) (by omega) (hz _ (by omega) (by omega))) (by omega) (hz _ (by omega) (by omega))) (by omega) (hz _ (by omega) (by omega))) (by omega) (hz _ (by omega) (by omega)),
   ((((hk.set _ _).set _ _).set _ _).set _ _).set _ _⟩

set_option maxRecDepth 100000 in
set_option maxHeartbeats 2000000 in
theorem clearLoop {K : Act → World → Prop} {Q : Exit → Act → World → Prop} {v1 v3 v4 v5 v6 v7 v8 v9 v10 v11 v12 v13 v14 v15 v16 v17 v18 v19 v20 v21 v22 v23 v24 v25 v26 v27 v28 v29 v30 v31 v32 v33 v34 v35 v36 v37 v38 v39 v40 v41 v42 v43 v44 v45 v46 v47 v48 v49 v50 v51 v52 v53 v54 v55 v56 v57 v58 v59 v60 v61 v62 v63 v64 v65 v66 v67 v68 v69 v70 v71 v72 v73 v74 v75 v76 v77 v78 v79 v80 v81 v82 v83 v84 v85 v86 v87 v88 v89 v90 v91 v92 v93 v94 v95 v96 v97 v98 v99 v100 v101 v102 v103 v104 v105 v106 v107 v108 v109 v110 v111 v112 v113 v114 v115 v116 v117 v118 v119 v120 v121 v122 v123 v124 v125 v126 v127 v128 v129 v130 v131 v132 v133 v134 v135 v136 v137 v138 v139 v140 v141 v142 v143 v144 v145 v146 v147 v148 v149 v150 v151 v152 v153 v154 v155 v156 v157 v158 v159 v160 v161 v162 v163 v165 v166 v167 v168 v169 v170 v171 v172 v173 v174 v175 v176 v177 v178 v179 v180 v181 v182 v183 v184 v185 v186 v187 v188 v189 v190 v191 v192 v193 v194 v195 v196 v197 v198 v199 v200 v201 v202 v203 v204 v205 v206 v207 v208 v209 v210 v211 v212 v213 v214 v215 v216 v217 v218 v219 v220 v221 v222 v223 v224 v225 v226 v227 v228 v229 v230 v231 v232 v233 v234 v235 v236 v237 v238 v239 v240 v241 v242 v243 v244 v245 v246 v247 v248 v249 v250 v251 v252 v253 v254 v255 v256 v257 v258 v259 v260 v261 v262 v263 v264 v265 v266 v267 v268 v269 v270 v271 v272 v273 v274 v275 v276 v277 v278 v279 v280 v281 v282 v283 v284 v285 v286 v287 v288 v289 v290 v291 v292 v293 v294 v295 v296 v297 v298 v299 v300 v301 v302 v303 v304 v305 v306 v307 v308 v309 v310 v311 v312 v313 v314 v315 v316 v317 v318 v319 v320 v321 v322 v323 v324 v325 v326 v327 v328 v329 v330 v331 v332 v333 v334 v335 v336 v337 v338 v339 v340 v341 v342 v343 v344 v345 v346 v347 v348 v349 v350 v351 v352 v353 v354 v355 : Value} {w0 : World} {b3 : Nat} {f : Nat → Value}
    (hrow : w0.heap[b3]? = some (rowObj (lay f) 36)) (hz : ∀ j, 22 ≤ j → j < 102 → f j = .float .f64 0)
    (hK : ∀ (u16 u165 u166 u167 u168 u169 u170 u171 u172 u173 u174 u175 u176 u177 u178 u179 u180 u181 u182 u183 : Value) (wx : World), (wx.heap[b3]? = some (rowObj (lay f) 36) ∧ Keep b3 w0 wx) → K ⟨#[.pointer (some ⟨b3, 0, none⟩), v1, .int .u16 65535, v3, v4, v5, v6, v7, v8, v9, v10, v11, v12, v13, v14, v15, u16, v17, v18, v19, v20, v21, v22, v23, v24, v25, v26, v27, v28, v29, v30, v31, v32, v33, v34, v35, v36, v37, v38, v39, v40, v41, v42, v43, v44, v45, v46, v47, v48, v49, v50, v51, v52, v53, v54, v55, v56, v57, v58, v59, v60, v61, v62, v63, v64, v65, v66, v67, v68, v69, v70, v71, v72, v73, v74, v75, v76, v77, v78, v79, v80, v81, v82, v83, v84, v85, v86, v87, v88, v89, v90, v91, v92, v93, v94, v95, v96, v97, v98, v99, v100, v101, v102, v103, v104, v105, v106, v107, v108, v109, v110, v111, v112, v113, v114, v115, v116, v117, v118, v119, v120, v121, v122, v123, v124, v125, v126, v127, v128, v129, v130, v131, v132, v133, v134, v135, v136, v137, v138, v139, v140, v141, v142, v143, v144, v145, v146, v147, v148, v149, v150, v151, v152, v153, v154, v155, v156, v157, v158, v159, v160, v161, v162, v163, .int .i64 16, u165, u166, u167, u168, u169, u170, u171, u172, u173, u174, u175, u176, u177, u178, u179, u180, u181, u182, u183, v184, v185, v186, v187, v188, v189, v190, v191, v192, v193, v194, v195, v196, v197, v198, v199, v200, v201, v202, v203, v204, v205, v206, v207, v208, v209, v210, v211, v212, v213, v214, v215, v216, v217, v218, v219, v220, v221, v222, v223, v224, v225, v226, v227, v228, v229, v230, v231, v232, v233, v234, v235, v236, v237, v238, v239, v240, v241, v242, v243, v244, v245, v246, v247, v248, v249, v250, v251, v252, v253, v254, v255, v256, v257, v258, v259, v260, v261, v262, v263, v264, v265, v266, v267, v268, v269, v270, v271, v272, v273, v274, v275, v276, v277, v278, v279, v280, v281, v282, v283, v284, v285, v286, v287, v288, v289, v290, v291, v292, v293, v294, v295, v296, v297, v298, v299, v300, v301, v302, v303, v304, v305, v306, v307, v308, v309, v310, v311, v312, v313, v314, v315, v316, v317, v318, v319, v320, v321, v322, v323, v324, v325, v326, v327, v328, v329, v330, v331, v332, v333, v334, v335, v336, v337, v338, v339, v340, v341, v342, v343, v344, v345, v346, v347, v348, v349, v350, v351, v352, v353, v354, v355], []⟩ wx) :
    Code.wp Tryd.prog (sub4 [1, 1, 1, 1, 1, 0, 1] (Tryd.f29.body.getD .skip)) (Exit.then K Q) ⟨#[.pointer (some ⟨b3, 0, none⟩), v1, .int .u16 65535, v3, v4, v5, v6, v7, v8, v9, v10, v11, v12, v13, v14, v15, v16, v17, v18, v19, v20, v21, v22, v23, v24, v25, v26, v27, v28, v29, v30, v31, v32, v33, v34, v35, v36, v37, v38, v39, v40, v41, v42, v43, v44, v45, v46, v47, v48, v49, v50, v51, v52, v53, v54, v55, v56, v57, v58, v59, v60, v61, v62, v63, v64, v65, v66, v67, v68, v69, v70, v71, v72, v73, v74, v75, v76, v77, v78, v79, v80, v81, v82, v83, v84, v85, v86, v87, v88, v89, v90, v91, v92, v93, v94, v95, v96, v97, v98, v99, v100, v101, v102, v103, v104, v105, v106, v107, v108, v109, v110, v111, v112, v113, v114, v115, v116, v117, v118, v119, v120, v121, v122, v123, v124, v125, v126, v127, v128, v129, v130, v131, v132, v133, v134, v135, v136, v137, v138, v139, v140, v141, v142, v143, v144, v145, v146, v147, v148, v149, v150, v151, v152, v153, v154, v155, v156, v157, v158, v159, v160, v161, v162, v163, .int .i64 0, v165, v166, v167, v168, v169, v170, v171, v172, v173, v174, v175, v176, v177, v178, v179, v180, v181, v182, v183, v184, v185, v186, v187, v188, v189, v190, v191, v192, v193, v194, v195, v196, v197, v198, v199, v200, v201, v202, v203, v204, v205, v206, v207, v208, v209, v210, v211, v212, v213, v214, v215, v216, v217, v218, v219, v220, v221, v222, v223, v224, v225, v226, v227, v228, v229, v230, v231, v232, v233, v234, v235, v236, v237, v238, v239, v240, v241, v242, v243, v244, v245, v246, v247, v248, v249, v250, v251, v252, v253, v254, v255, v256, v257, v258, v259, v260, v261, v262, v263, v264, v265, v266, v267, v268, v269, v270, v271, v272, v273, v274, v275, v276, v277, v278, v279, v280, v281, v282, v283, v284, v285, v286, v287, v288, v289, v290, v291, v292, v293, v294, v295, v296, v297, v298, v299, v300, v301, v302, v303, v304, v305, v306, v307, v308, v309, v310, v311, v312, v313, v314, v315, v316, v317, v318, v319, v320, v321, v322, v323, v324, v325, v326, v327, v328, v329, v330, v331, v332, v333, v334, v335, v336, v337, v338, v339, v340, v341, v342, v343, v344, v345, v346, v347, v348, v349, v350, v351, v352, v353, v354, v355], []⟩ w0 := by
  have Hrow := hide hrow
  have Hz := hide hz
  have hsf := sf
  clear hrow hz
  conv => arg 2; whnf
  go_wp2
  go_loopg [164] 16 (fun g s164 wr => ∃ o : Nat, s164 = .int .i64 o ∧ g + o = 16 ∧ wr.heap[b3]? = some (rowObj (lay f) 36) ∧ Keep b3 w0 wr)
  case atStart => exact ⟨0, rfl, rfl, unhide Hrow, Keep.refl _ _⟩
  case round =>
    obtain ⟨o, rfl, hg, hr, hk⟩ := hrel
    have Hg := hide hg
    by_cases c : o < 16
    · have hl := lost_bit ⟨o, c⟩
      dsimp only at hl
      have c' : (o : Int) < 16 := by omega
      have c0 : (0 : Int) ≤ (o : Int) := by omega
      have rc : ∀ j, 22 ≤ j → j < 102 → wr.cell? ⟨b3, j, none⟩ = some (.float .f64 0) := fun j h1 h2 => by rw [← unhide Hz j h1 h2]; exact row_cell hr j _ (lay_at _ (by omega))
      have e0 := rc (22 + o * 4) (by omega) (by omega)
      have e1 := rc (22 + o * 4 + 1) (by omega) (by omega)
      have e2 := rc (22 + o * 4 + 2) (by omega) (by omega)
      have e3 := rc (22 + o * 4 + 3) (by omega) (by omega)
      have er := rc (86 + o) (by omega) (by omega)
      have f0 := row_free hr (22 + o * 4)
      have f1 := row_free hr (22 + o * 4 + 1)
      have f2 := row_free hr (22 + o * 4 + 2)
      have f3 := row_free hr (22 + o * 4 + 3)
      have fr' := row_free hr (86 + o)
      have H1 := hide (And.intro hr hk)
      clear hg hr hk rc
      go_wp2_with fail
      refine wp_region_noPanic ?_
      go_region
      refine NoPanic.normal ?_
      have A := five (unhide H1).1 (unhide H1).2 (unhide Hz) c
      obtain ⟨W5, e5⟩ : ∃ W5, W5 = (((((wr.setCell ⟨b3, 22 + o * 4, none⟩ (.float .f64 0)).setCell ⟨b3, 22 + o * 4 + 1, none⟩ (.float .f64 0)).setCell ⟨b3, 22 + o * 4 + 2, none⟩ (.float .f64 0)).setCell ⟨b3, 22 + o * 4 + 3, none⟩ (.float .f64 0)).setCell ⟨b3, 86 + o, none⟩ (.float .f64 0)) := ⟨_, rfl⟩
      rw [← e5] at A ⊢
      have HA := hide A
      clear A e5 e0 e1 e2 e3 er f0 f1 f2 f3 fr'
      go_wp2
      go_roundg (gk - 1)
      case measure => have := unhide Hg; omega
      case rel => exact ⟨o + 1, by go_num, by have := unhide Hg; omega, (unhide HA).1, (unhide HA).2.drew⟩
    · obtain rfl : o = 16 := by omega
      have H2 := hide (And.intro hr hk)
      clear hg hr hk
      go_wp2
      exact unhide H2

end Go.Proofs.Qxb6614855aDoor
