/- prune: the reach is the greatest radius. -/
import Derived.Test.Qxb6614855aDoorP8a
namespace Go.Proofs.Qxb6614855aDoor
open Go.RowKit

theorem upd_upd (f : Nat → Value) (i : Nat) (x y : Value) : upd (upd f i x) i y = upd f i y := by
  funext j
  unfold upd
  split <;> rfl

set_option maxRecDepth 100000 in
set_option maxHeartbeats 4000000 in
theorem reachLoop {K : Act → World → Prop} {Q : Exit → Act → World → Prop} {v1 v2 v3 v4 v5 v6 v7 v8 v9 v10 v11 v12 v13 v14 v15 v16 v17 v18 v19 v20 v21 v22 v23 v24 v25 v26 v27 v28 v29 v30 v31 v32 v33 v34 v35 v36 v37 v38 v39 v40 v41 v42 v43 v44 v45 v46 v47 v48 v49 v50 v51 v52 v53 v54 v55 v56 v57 v58 v59 v60 v61 v62 v63 v64 v65 v66 v67 v68 v69 v70 v71 v72 v73 v74 v75 v76 v77 v78 v79 v80 v81 v82 v83 v84 v85 v86 v87 v88 v89 v90 v91 v92 v93 v94 v95 v96 v97 v98 v99 v100 v101 v102 v103 v104 v105 v106 v107 v108 v109 v110 v111 v112 v113 v114 v115 v116 v117 v118 v119 v120 v121 v122 v123 v124 v125 v126 v127 v128 v129 v130 v131 v132 v133 v134 v135 v136 v137 v138 v139 v140 v141 v142 v143 v144 v145 v146 v147 v148 v149 v150 v151 v152 v153 v154 v155 v156 v157 v158 v159 v160 v161 v162 v163 v164 v165 v166 v167 v168 v169 v170 v171 v172 v173 v174 v175 v176 v177 v178 v179 v180 v181 v182 v183 v184 v185 v186 v187 v188 v189 v190 v191 v192 v193 v194 v195 v196 v197 v198 v199 v200 v201 v202 v203 v204 v205 v206 v207 v208 v209 v210 v211 v212 v213 v214 v215 v216 v217 v218 v219 v220 v221 v222 v223 v224 v225 v226 v227 v228 v229 v230 v231 v232 v233 v234 v235 v236 v237 v238 v239 v240 v241 v242 v243 v244 v245 v246 v247 v248 v249 v250 v251 v252 v253 v254 v255 v256 v257 v258 v259 v260 v261 v262 v263 v264 v265 v266 v267 v268 v269 v270 v271 v272 v273 v274 v275 v276 v277 v278 v279 v280 v281 v282 v283 v284 v285 v286 v287 v288 v289 v290 v291 v292 v293 v296 v297 v298 v299 v300 v301 v302 v303 v304 v305 v306 v307 v308 v309 v310 v311 v312 v313 v314 v315 v316 v317 v318 v319 v320 v321 v322 v323 v324 v325 v326 v327 v328 v329 v330 v331 v332 v333 v334 v335 v336 v337 v338 v339 v340 v341 v342 v343 v344 v345 v346 v347 v348 v349 v350 v351 v352 v353 v354 v355 : Value} {w0 : World} {b3 : Nat} {f : Nat → Value} {R : Array Value} (hR : R = (List.replicate 16 (.float .f64 (acc 4))).toArray)
    (hrow : w0.heap[b3]? = some (rowObj (lay (upd f 198 (.float .f64 (rea 0)))) 36))
    (hK : ∀ (u23 u296 u297 u298 u299 u300 u301 u302 u303 u304 u305 u306 u307 : Value) (wx : World), (wx.heap[b3]? = some (rowObj (lay (upd f 198 (.float .f64 (rea 16)))) 36) ∧ Keep b3 w0 wx) → K ⟨#[.pointer (some ⟨b3, 0, none⟩), v1, v2, v3, v4, v5, v6, v7, v8, v9, v10, v11, v12, v13, v14, v15, v16, v17, v18, v19, v20, v21, v22, u23, v24, v25, v26, v27, v28, v29, v30, v31, v32, v33, v34, v35, v36, v37, v38, v39, v40, v41, v42, v43, v44, v45, v46, v47, v48, v49, v50, v51, v52, v53, v54, v55, v56, v57, v58, v59, v60, v61, v62, v63, v64, v65, v66, v67, v68, v69, v70, v71, v72, v73, v74, v75, v76, v77, v78, v79, v80, v81, v82, v83, v84, v85, v86, v87, v88, v89, v90, v91, v92, v93, v94, v95, v96, v97, v98, v99, v100, v101, v102, v103, v104, v105, v106, v107, v108, v109, v110, v111, v112, v113, v114, v115, v116, v117, v118, v119, v120, v121, v122, v123, v124, v125, v126, v127, v128, v129, v130, v131, v132, v133, v134, v135, v136, v137, v138, v139, v140, v141, v142, v143, v144, v145, v146, v147, v148, v149, v150, v151, v152, v153, v154, v155, v156, v157, v158, v159, v160, v161, v162, v163, v164, v165, v166, v167, v168, v169, v170, v171, v172, v173, v174, v175, v176, v177, v178, v179, v180, v181, v182, v183, v184, v185, v186, v187, v188, v189, v190, v191, v192, v193, v194, v195, v196, v197, v198, v199, v200, v201, v202, v203, v204, v205, v206, v207, v208, v209, v210, v211, v212, v213, v214, v215, v216, v217, v218, v219, v220, v221, v222, v223, v224, v225, v226, v227, v228, v229, v230, v231, v232, v233, v234, v235, v236, v237, v238, v239, v240, v241, v242, v243, v244, v245, v246, v247, v248, v249, v250, v251, v252, v253, v254, v255, v256, v257, v258, v259, v260, v261, v262, v263, v264, v265, v266, v267, v268, v269, v270, v271, v272, v273, v274, v275, v276, v277, v278, v279, v280, v281, v282, v283, v284, v285, v286, v287, v288, v289, v290, v291, v292, v293, .agg R, .int .i64 16, u296, u297, u298, u299, u300, u301, u302, u303, u304, u305, u306, u307, v308, v309, v310, v311, v312, v313, v314, v315, v316, v317, v318, v319, v320, v321, v322, v323, v324, v325, v326, v327, v328, v329, v330, v331, v332, v333, v334, v335, v336, v337, v338, v339, v340, v341, v342, v343, v344, v345, v346, v347, v348, v349, v350, v351, v352, v353, v354, v355], []⟩ wx) :
    Code.wp Tryd.prog (sub4 [1, 1, 1, 1, 1, 1, 1, 1, 0, 1] (Tryd.f29.body.getD .skip)) (Exit.then K Q) ⟨#[.pointer (some ⟨b3, 0, none⟩), v1, v2, v3, v4, v5, v6, v7, v8, v9, v10, v11, v12, v13, v14, v15, v16, v17, v18, v19, v20, v21, v22, v23, v24, v25, v26, v27, v28, v29, v30, v31, v32, v33, v34, v35, v36, v37, v38, v39, v40, v41, v42, v43, v44, v45, v46, v47, v48, v49, v50, v51, v52, v53, v54, v55, v56, v57, v58, v59, v60, v61, v62, v63, v64, v65, v66, v67, v68, v69, v70, v71, v72, v73, v74, v75, v76, v77, v78, v79, v80, v81, v82, v83, v84, v85, v86, v87, v88, v89, v90, v91, v92, v93, v94, v95, v96, v97, v98, v99, v100, v101, v102, v103, v104, v105, v106, v107, v108, v109, v110, v111, v112, v113, v114, v115, v116, v117, v118, v119, v120, v121, v122, v123, v124, v125, v126, v127, v128, v129, v130, v131, v132, v133, v134, v135, v136, v137, v138, v139, v140, v141, v142, v143, v144, v145, v146, v147, v148, v149, v150, v151, v152, v153, v154, v155, v156, v157, v158, v159, v160, v161, v162, v163, v164, v165, v166, v167, v168, v169, v170, v171, v172, v173, v174, v175, v176, v177, v178, v179, v180, v181, v182, v183, v184, v185, v186, v187, v188, v189, v190, v191, v192, v193, v194, v195, v196, v197, v198, v199, v200, v201, v202, v203, v204, v205, v206, v207, v208, v209, v210, v211, v212, v213, v214, v215, v216, v217, v218, v219, v220, v221, v222, v223, v224, v225, v226, v227, v228, v229, v230, v231, v232, v233, v234, v235, v236, v237, v238, v239, v240, v241, v242, v243, v244, v245, v246, v247, v248, v249, v250, v251, v252, v253, v254, v255, v256, v257, v258, v259, v260, v261, v262, v263, v264, v265, v266, v267, v268, v269, v270, v271, v272, v273, v274, v275, v276, v277, v278, v279, v280, v281, v282, v283, v284, v285, v286, v287, v288, v289, v290, v291, v292, v293, .agg R, .int .i64 0, v296, v297, v298, v299, v300, v301, v302, v303, v304, v305, v306, v307, v308, v309, v310, v311, v312, v313, v314, v315, v316, v317, v318, v319, v320, v321, v322, v323, v324, v325, v326, v327, v328, v329, v330, v331, v332, v333, v334, v335, v336, v337, v338, v339, v340, v341, v342, v343, v344, v345, v346, v347, v348, v349, v350, v351, v352, v353, v354, v355], []⟩ w0 := by
  have Hrow := hide hrow
  have HR := hide hR
  have hsf := sf
  clear hrow hR
  conv => arg 2; whnf
  go_wp2
  go_loopg [295] 16 (fun g s295 wr => ∃ k : Nat, s295 = .int .i64 k ∧ g + k = 16 ∧ wr.heap[b3]? = some (rowObj (lay (upd f 198 (.float .f64 (rea k)))) 36) ∧ Keep b3 w0 wr)
  case atStart => exact ⟨0, rfl, rfl, unhide Hrow, Keep.refl _ _⟩
  case round =>
    obtain ⟨k, rfl, hg, hr, hk⟩ := hrel
    have Hg := hide hg
    by_cases c : k < 16
    · have c' : (k : Int) < 16 := by omega
      have c0 : (0 : Int) ≤ (k : Int) := by omega
      have hi : ∀ W : World, (Instr.index 30 (.agg R) (.int .i64 k)).run Tryd.prog W = .ok (.float .f64 (acc 4)) W := by rw [unhide HR]; exact fun W => index30 W k c
      have e1 := row_cell hr 198 _ (lay_at _ (by omega))
      have e1' : upd f 198 (.float .f64 (rea k)) 198 = .float .f64 (rea k) := by unfold upd; rw [if_pos rfl]
      rw [e1'] at e1
      have f1 := row_free hr 198
      have hset := row_set hr 198 (.float .f64 (rea (k + 1)))
      rw [lay_set _ (by omega), upd_upd] at hset
      have hm := max_rea k
      obtain ⟨x, ex⟩ : ∃ x, x = rea k := ⟨_, rfl⟩
      obtain ⟨y, ey⟩ : ∃ y, y = rea (k + 1) := ⟨_, rfl⟩
      obtain ⟨z, ez⟩ : ∃ z, z = acc 4 := ⟨_, rfl⟩
      rw [← ex, ← ey, ← ez] at hm
      rw [← ex] at e1
      rw [← ez] at hi
      have hset' := hset
      rw [← ey] at hset'
      have H1 := hide (And.intro hset' hk)
      have Ey := hide ey
      clear hg hr hk hset hset' e1' ex ey ez
      go_wp2
      go_roundg (gk - 1)
      case measure => have := unhide Hg; omega
      case rel => exact ⟨k + 1, by go_num, by have := unhide Hg; omega, by have := (unhide H1).1; rw [unhide Ey] at this ⊢; exact this, (unhide H1).2.set _ _⟩
    · obtain rfl : k = 16 := by omega
      have H2 := hide (And.intro hr hk)
      clear hg hr hk
      go_wp2
      exact unhide H2

end Go.Proofs.Qxb6614855aDoor
