/- prune: one corner's extents. -/
import Derived.Test.Qxb6614855aDoorP4
namespace Go.Proofs.Qxb6614855aDoor
open Go.RowKit

/-- The first m extents of orthant k are laid. -/
def extF (f : Nat → Value) (k m : Nat) : Nat → Value := fun j => if 22 + k * 4 ≤ j ∧ j < 22 + k * 4 + m then .float .f64 (fb false) else f j
theorem extF_zero (f : Nat → Value) (k : Nat) : extF f k 0 = f := by
  funext j
  unfold extF
  rw [if_neg (by omega)]
theorem extF_upd (f : Nat → Value) (k m : Nat) : upd (extF f k m) (22 + k * 4 + m) (.float .f64 (fb false)) = extF f k (m + 1) := by
  funext j
  unfold upd extF
  by_cases e : j = 22 + k * 4 + m
  · rw [if_pos e, if_pos (by omega)]
  · rw [if_neg e]
    by_cases c : 22 + k * 4 ≤ j ∧ j < 22 + k * 4 + m
    · rw [if_pos c, if_pos (by omega)]
    · rw [if_neg c, if_neg (by omega)]

theorem max_ext (W : World) : (Builtin.max_ #[27, 27] 27 #[.float .f64 0, .float .f64 (fb false)]).run Tryd.prog W = .ok (.float .f64 (fb false)) W := by rfl

theorem vtx_at (k : Nat) : ∀ j, j < 4 → (vtx k)[j]? = some (.float .f64 (fb (k.testBit j)))
  | 0, _ => rfl
  | 1, _ => rfl
  | 2, _ => rfl
  | 3, _ => rfl
  | _ + 4, h => by omega

set_option maxRecDepth 100000 in
set_option maxHeartbeats 2000000 in
theorem extLoop {Q : Exit → Act → World → Prop} {v1 v2 v3 v4 v5 v6 v7 v8 v9 v10 v11 v12 v13 v14 v15 v16 v17 v19 v21 v22 v23 v24 v25 v26 v27 v28 v29 v30 v31 v32 v33 v34 v35 v36 v37 v38 v39 v40 v41 v42 v43 v44 v45 v46 v47 v48 v49 v50 v51 v52 v53 v54 v55 v56 v57 v58 v59 v60 v61 v62 v63 v64 v65 v66 v67 v68 v69 v70 v71 v72 v73 v74 v75 v76 v77 v78 v79 v80 v81 v82 v83 v84 v85 v86 v87 v88 v89 v90 v91 v92 v93 v94 v95 v96 v97 v98 v99 v100 v101 v102 v103 v104 v105 v106 v107 v108 v109 v110 v111 v112 v113 v114 v115 v116 v117 v118 v119 v120 v121 v122 v123 v124 v125 v126 v127 v128 v129 v130 v131 v132 v133 v134 v135 v136 v137 v138 v139 v140 v141 v142 v143 v144 v145 v146 v147 v148 v149 v150 v151 v152 v153 v154 v155 v156 v157 v158 v159 v160 v161 v162 v163 v164 v165 v166 v167 v168 v169 v170 v171 v172 v173 v174 v175 v176 v177 v178 v179 v180 v181 v182 v183 v184 v185 v186 v187 v188 v189 v190 v191 v192 v193 v194 v195 v196 v197 v198 v199 v200 v201 v202 v203 v204 v205 v206 v207 v208 v209 v210 v211 v212 v213 v214 v215 v216 v217 v218 v219 v220 v221 v222 v223 v224 v225 v226 v227 v228 v229 v230 v231 v232 v233 v234 v235 v236 v237 v238 v239 v240 v241 v242 v243 v244 v245 v246 v247 v248 v249 v250 v251 v252 v253 v254 v255 v256 v257 v258 v259 v261 v262 v263 v264 v265 v266 v267 v268 v269 v270 v271 v272 v273 v274 v275 v276 v277 v278 v279 v280 v281 v282 v283 v284 v285 v286 v287 v288 v289 v290 v291 v292 v293 v294 v295 v296 v297 v298 v299 v300 v301 v302 v303 v304 v305 v306 v307 v308 v309 v310 v311 v312 v313 v314 v315 v316 v317 v318 v319 v320 v321 v322 v323 v324 v325 v326 v327 v328 v329 v330 v331 v332 v333 v334 v335 v336 v337 v338 v339 v340 v341 v342 v343 v344 v345 v346 v347 v348 v349 v350 v351 v352 v353 v354 v355 : Value} {w0 : World} {b3 bv k : Nat} {f : Nat → Value} (hk16 : k < 16)
    (hrow : w0.heap[b3]? = some (rowObj (lay f) 36)) (hz : ∀ j, j < 4 → f (22 + k * 4 + j) = .float .f64 0) (hV : Corners bv w0) (hne : bv ≠ b3) (hvl : bv < w0.heap.size)
    (hK : ∀ (u21 u261 u262 u263 u264 u265 u266 u267 u268 u269 u270 u271 u272 u273 u274 u275 u276 u277 u278 u279 u280 u281 u282 u283 u284 u285 u286 : Value) (wx : World), (wx.heap[b3]? = some (rowObj (lay (extF f k 4)) 36) ∧ Keep b3 w0 wx) → Q .normal ⟨#[.pointer (some ⟨b3, 0, none⟩), v1, v2, v3, v4, v5, v6, v7, v8, v9, v10, v11, v12, v13, v14, v15, v16, v17, .pointer (some ⟨bv, k * 12, none⟩), v19, .int .u8 k, u21, v22, v23, v24, v25, v26, v27, v28, v29, v30, v31, v32, v33, v34, v35, v36, v37, v38, v39, v40, v41, v42, v43, v44, v45, v46, v47, v48, v49, v50, v51, v52, v53, v54, v55, v56, v57, v58, v59, v60, v61, v62, v63, v64, v65, v66, v67, v68, v69, v70, v71, v72, v73, v74, v75, v76, v77, v78, v79, v80, v81, v82, v83, v84, v85, v86, v87, v88, v89, v90, v91, v92, v93, v94, v95, v96, v97, v98, v99, v100, v101, v102, v103, v104, v105, v106, v107, v108, v109, v110, v111, v112, v113, v114, v115, v116, v117, v118, v119, v120, v121, v122, v123, v124, v125, v126, v127, v128, v129, v130, v131, v132, v133, v134, v135, v136, v137, v138, v139, v140, v141, v142, v143, v144, v145, v146, v147, v148, v149, v150, v151, v152, v153, v154, v155, v156, v157, v158, v159, v160, v161, v162, v163, v164, v165, v166, v167, v168, v169, v170, v171, v172, v173, v174, v175, v176, v177, v178, v179, v180, v181, v182, v183, v184, v185, v186, v187, v188, v189, v190, v191, v192, v193, v194, v195, v196, v197, v198, v199, v200, v201, v202, v203, v204, v205, v206, v207, v208, v209, v210, v211, v212, v213, v214, v215, v216, v217, v218, v219, v220, v221, v222, v223, v224, v225, v226, v227, v228, v229, v230, v231, v232, v233, v234, v235, v236, v237, v238, v239, v240, v241, v242, v243, v244, v245, v246, v247, v248, v249, v250, v251, v252, v253, v254, v255, v256, v257, v258, v259, .int .i64 4, u261, u262, u263, u264, u265, u266, u267, u268, u269, u270, u271, u272, u273, u274, u275, u276, u277, u278, u279, u280, u281, u282, u283, u284, u285, u286, v287, v288, v289, v290, v291, v292, v293, v294, v295, v296, v297, v298, v299, v300, v301, v302, v303, v304, v305, v306, v307, v308, v309, v310, v311, v312, v313, v314, v315, v316, v317, v318, v319, v320, v321, v322, v323, v324, v325, v326, v327, v328, v329, v330, v331, v332, v333, v334, v335, v336, v337, v338, v339, v340, v341, v342, v343, v344, v345, v346, v347, v348, v349, v350, v351, v352, v353, v354, v355], []⟩ wx) :
    Code.wp Tryd.prog (sub4 [1, 1, 1, 1, 1, 1, 0, 1, 2, 3, 1, 1, 0, 2, 1, 1, 1, 1, 1, 1, 4, 1, 1] (Tryd.f29.body.getD .skip)) Q ⟨#[.pointer (some ⟨b3, 0, none⟩), v1, v2, v3, v4, v5, v6, v7, v8, v9, v10, v11, v12, v13, v14, v15, v16, v17, .pointer (some ⟨bv, k * 12, none⟩), v19, .int .u8 k, v21, v22, v23, v24, v25, v26, v27, v28, v29, v30, v31, v32, v33, v34, v35, v36, v37, v38, v39, v40, v41, v42, v43, v44, v45, v46, v47, v48, v49, v50, v51, v52, v53, v54, v55, v56, v57, v58, v59, v60, v61, v62, v63, v64, v65, v66, v67, v68, v69, v70, v71, v72, v73, v74, v75, v76, v77, v78, v79, v80, v81, v82, v83, v84, v85, v86, v87, v88, v89, v90, v91, v92, v93, v94, v95, v96, v97, v98, v99, v100, v101, v102, v103, v104, v105, v106, v107, v108, v109, v110, v111, v112, v113, v114, v115, v116, v117, v118, v119, v120, v121, v122, v123, v124, v125, v126, v127, v128, v129, v130, v131, v132, v133, v134, v135, v136, v137, v138, v139, v140, v141, v142, v143, v144, v145, v146, v147, v148, v149, v150, v151, v152, v153, v154, v155, v156, v157, v158, v159, v160, v161, v162, v163, v164, v165, v166, v167, v168, v169, v170, v171, v172, v173, v174, v175, v176, v177, v178, v179, v180, v181, v182, v183, v184, v185, v186, v187, v188, v189, v190, v191, v192, v193, v194, v195, v196, v197, v198, v199, v200, v201, v202, v203, v204, v205, v206, v207, v208, v209, v210, v211, v212, v213, v214, v215, v216, v217, v218, v219, v220, v221, v222, v223, v224, v225, v226, v227, v228, v229, v230, v231, v232, v233, v234, v235, v236, v237, v238, v239, v240, v241, v242, v243, v244, v245, v246, v247, v248, v249, v250, v251, v252, v253, v254, v255, v256, v257, v258, v259, .int .i64 0, v261, v262, v263, v264, v265, v266, v267, v268, v269, v270, v271, v272, v273, v274, v275, v276, v277, v278, v279, v280, v281, v282, v283, v284, v285, v286, v287, v288, v289, v290, v291, v292, v293, v294, v295, v296, v297, v298, v299, v300, v301, v302, v303, v304, v305, v306, v307, v308, v309, v310, v311, v312, v313, v314, v315, v316, v317, v318, v319, v320, v321, v322, v323, v324, v325, v326, v327, v328, v329, v330, v331, v332, v333, v334, v335, v336, v337, v338, v339, v340, v341, v342, v343, v344, v345, v346, v347, v348, v349, v350, v351, v352, v353, v354, v355], []⟩ w0 := by
  have Hrow := hide hrow
  have Hz := hide hz
  have HV := hide hV
  have hsf := sf
  have hmx := max_ext
  clear hrow hz hV
  conv => arg 2; whnf
  go_wp2
  go_loopg [260] 4 (fun g s260 wr => ∃ m : Nat, s260 = .int .i64 m ∧ g + m = 4 ∧ wr.heap[b3]? = some (rowObj (lay (extF f k m)) 36) ∧ Keep b3 w0 wr)
  case atStart => exact ⟨0, rfl, rfl, by rw [extF_zero]; exact unhide Hrow, Keep.refl _ _⟩
  case round =>
    obtain ⟨m, rfl, hg, hr, hk⟩ := hrel
    have Hg := hide hg
    by_cases c : m < 4
    · have c' : (m : Int) < 4 := by omega
      have c0 : (0 : Int) ≤ (m : Int) := by omega
      have ck : (k : Int) < 16 := by omega
      have ck0 : (0 : Int) ≤ (k : Int) := by omega
      have e1 := row_cell hr (22 + k * 4 + m) _ (lay_at _ (by omega))
      have ez : extF f k m (22 + k * 4 + m) = .float .f64 0 := by unfold extF; rw [if_neg (by omega)]; exact unhide Hz m c
      rw [ez] at e1
      have f1 := row_free hr (22 + k * 4 + m)
      have hset := row_set hr (22 + k * 4 + m) (.float .f64 (fb false))
      rw [lay_set _ (by omega), extF_upd] at hset
      have d1 := (unhide HV).keep hk hne hvl k m _ hk16 (vtx_at k m c)
      have hab := abs_any (k.testBit m) wr.drew
      obtain ⟨x, ex⟩ : ∃ x, x = fb (k.testBit m) := ⟨_, rfl⟩
      rw [← ex] at d1 hab
      have Hab := hide hab
      have H1 := hide (And.intro hset hk)
      clear hg hr hk ez hset hab ex
      obtain ⟨p, ep⟩ : ∃ p, p = fb false := ⟨_, rfl⟩
      rw [← ep] at hmx H1 Hab
      have Ep := hide ep
      clear ep
      go_wp2_with fail
      refine wp_region_noPanic ?_
      go_region_with (go_at_call 35; refine (unhide Hab).mono ?_; rintro e w1 ⟨rfl, hw1⟩; subst hw1)
      all_goals
        refine NoPanic.normal ?_
        go_wp2
        go_roundg (gk - 1)
        case measure => have := unhide Hg; omega
        case rel => exact ⟨m + 1, by go_num, by have := unhide Hg; omega, (unhide H1).1, ((unhide H1).2.set _ _).drew⟩
    · obtain rfl : m = 4 := by omega
      have H2 := hide (And.intro hr hk)
      clear hg hr hk
      go_wp2
      first
        | exact unhide H2
        | (apply hK; exact unhide H2)

end Go.Proofs.Qxb6614855aDoor
