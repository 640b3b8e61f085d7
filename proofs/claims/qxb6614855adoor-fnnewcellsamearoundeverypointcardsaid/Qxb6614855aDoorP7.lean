/- prune: the corners of each orthant. -/
import Derived.Test.Qxb6614855aDoorP5
import Derived.Test.Qxb6614855aDoorP6
import Derived.Test.Qxb6614855aDoorP7a
namespace Go.Proofs.Qxb6614855aDoor
open Go.RowKit

/-- The struct behind k corners. -/
def cornF (f : Nat → Value) (k : Nat) : Nat → Value := fun j =>
  if 6 ≤ j ∧ j < 6 + k then .int .i32 1 else if 22 ≤ j ∧ j < 22 + k * 4 then .float .f64 (fb false) else if 86 ≤ j ∧ j < 86 + k then .float .f64 (acc 4) else f j
theorem cornF_zero (f : Nat → Value) : cornF f 0 = f := by
  funext j
  unfold cornF
  rw [if_neg (by omega), if_neg (by omega), if_neg (by omega)]
theorem cornF_step (f : Nat → Value) (k : Nat) (hk : k < 16) : extF (upd (upd (cornF f k) (6 + k) (.int .i32 1)) (86 + k) (.float .f64 (acc 4))) k 4 = cornF f (k + 1) := by
  funext j
  unfold extF upd cornF
  repeat' split
  all_goals first
    | rfl
    | (exfalso; omega)
theorem cornF_other (f : Nat → Value) (k j : Nat) (h1 : ¬ (6 ≤ j ∧ j < 6 + k)) (h2 : ¬ (22 ≤ j ∧ j < 22 + k * 4)) (h3 : ¬ (86 ≤ j ∧ j < 86 + k)) : cornF f k j = f j := by
  unfold cornF
  rw [if_neg h1, if_neg h2, if_neg h3]

set_option maxRecDepth 100000 in
set_option maxHeartbeats 4000000 in
theorem orthLoop {K : Act → World → Prop} {Q : Exit → Act → World → Prop} {v1 v2 v4 v5 v6 v7 v8 v9 v10 v11 v12 v13 v15 v16 v17 v18 v19 v20 v21 v22 v23 v24 v25 v26 v27 v28 v29 v30 v31 v32 v33 v34 v35 v36 v37 v38 v39 v40 v41 v42 v43 v44 v45 v46 v47 v48 v49 v50 v51 v52 v53 v54 v55 v56 v57 v58 v59 v60 v61 v62 v63 v64 v65 v66 v67 v68 v69 v70 v71 v72 v73 v74 v75 v76 v77 v78 v79 v80 v81 v82 v83 v84 v85 v86 v87 v88 v89 v90 v91 v92 v93 v94 v95 v96 v97 v98 v99 v100 v101 v102 v103 v104 v105 v106 v107 v108 v109 v110 v111 v112 v113 v114 v115 v116 v117 v118 v119 v120 v121 v122 v123 v124 v125 v126 v127 v128 v129 v130 v131 v132 v133 v134 v135 v136 v137 v138 v139 v140 v141 v142 v143 v144 v145 v146 v147 v148 v149 v150 v151 v152 v153 v154 v155 v156 v157 v158 v159 v160 v161 v162 v163 v164 v165 v166 v167 v168 v169 v170 v171 v172 v173 v174 v175 v176 v177 v178 v179 v180 v181 v182 v183 v184 v185 v186 v190 v191 v192 v193 v194 v195 v196 v197 v198 v199 v200 v201 v202 v203 v204 v205 v206 v207 v208 v209 v210 v211 v212 v213 v214 v215 v216 v217 v218 v219 v220 v221 v222 v223 v224 v225 v226 v227 v228 v229 v230 v231 v232 v233 v234 v235 v236 v237 v238 v239 v240 v241 v242 v243 v244 v245 v246 v247 v248 v249 v250 v251 v252 v253 v254 v255 v256 v257 v258 v259 v260 v261 v262 v263 v264 v265 v266 v267 v268 v269 v270 v271 v272 v273 v274 v275 v276 v277 v278 v279 v280 v281 v282 v283 v284 v285 v286 v287 v288 v289 v290 v291 v292 v293 v294 v295 v296 v297 v298 v299 v300 v301 v302 v303 v304 v305 v306 v307 v308 v309 v310 v311 v312 v313 v314 v315 v316 v317 v318 v319 v320 v321 v322 v323 v324 v325 v326 v327 v328 v329 v330 v331 v332 v333 v334 v335 v336 v337 v338 v339 v340 v341 v342 v343 v344 v345 v346 v347 v348 v349 v350 v351 v352 v353 v354 v355 : Value} {w0 : World} {bg b3 bv cap : Nat} {f : Nat → Value} (h5 : f 5 = .slice (some ⟨bv, 0, none⟩) 16 cap)
    (hz6 : ∀ j, 6 ≤ j → j < 22 → f j = .int .i32 0) (hz : ∀ j, 22 ≤ j → j < 102 → f j = .float .f64 0)
    (hrow : w0.heap[b3]? = some (rowObj (lay f) 36)) (hV : Corners bv w0) (hF : ∀ i, w0.frozen? ⟨bv, i, none⟩ = false) (hG : ∀ i, i < 3 → w0.cell? ⟨bg, i, none⟩ = some (.int .u32 0))
    (hne : bv ≠ b3) (hvl : bv < w0.heap.size) (hgn : bg ≠ b3) (hgl : bg < w0.heap.size)
    (hK : ∀ (u17 u18 u19 u20 u21 u190 u191 u192 u193 u194 u195 u196 u197 u198 u199 u200 u201 u202 u203 u204 u205 u206 u207 u208 u209 u210 u211 u212 u213 u214 u215 u216 u217 u218 u219 u220 u221 u222 u223 u224 u225 u226 u227 u228 u229 u230 u231 u232 u233 u234 u235 u236 u237 u238 u239 u240 u241 u242 u243 u244 u245 u246 u247 u248 u249 u250 u251 u252 u253 u254 u255 u256 u257 u258 u259 u260 u261 u262 u263 u264 u265 u266 u267 u268 u269 u270 u271 u272 u273 u274 u275 u276 u277 u278 u279 u280 u281 u282 u283 u284 u285 u286 u287 : Value) (wx : World), (wx.heap[b3]? = some (rowObj (lay (cornF f 16)) 36) ∧ Keep b3 w0 wx) → K ⟨#[.pointer (some ⟨b3, 0, none⟩), v1, v2, .int .i64 0, v4, v5, v6, v7, v8, v9, v10, v11, v12, v13, .pointer (some ⟨bg, 0, none⟩), v15, v16, u17, u18, u19, u20, u21, v22, v23, v24, v25, v26, v27, v28, v29, v30, v31, v32, v33, v34, v35, v36, v37, v38, v39, v40, v41, v42, v43, v44, v45, v46, v47, v48, v49, v50, v51, v52, v53, v54, v55, v56, v57, v58, v59, v60, v61, v62, v63, v64, v65, v66, v67, v68, v69, v70, v71, v72, v73, v74, v75, v76, v77, v78, v79, v80, v81, v82, v83, v84, v85, v86, v87, v88, v89, v90, v91, v92, v93, v94, v95, v96, v97, v98, v99, v100, v101, v102, v103, v104, v105, v106, v107, v108, v109, v110, v111, v112, v113, v114, v115, v116, v117, v118, v119, v120, v121, v122, v123, v124, v125, v126, v127, v128, v129, v130, v131, v132, v133, v134, v135, v136, v137, v138, v139, v140, v141, v142, v143, v144, v145, v146, v147, v148, v149, v150, v151, v152, v153, v154, v155, v156, v157, v158, v159, v160, v161, v162, v163, v164, v165, v166, v167, v168, v169, v170, v171, v172, v173, v174, v175, v176, v177, v178, v179, v180, v181, v182, v183, v184, v185, v186, .slice (some ⟨bv, 0, none⟩) 16 cap, .int .i64 16, .int .i64 16, u190, u191, u192, u193, u194, u195, u196, u197, u198, u199, u200, u201, u202, u203, u204, u205, u206, u207, u208, u209, u210, u211, u212, u213, u214, u215, u216, u217, u218, u219, u220, u221, u222, u223, u224, u225, u226, u227, u228, u229, u230, u231, u232, u233, u234, u235, u236, u237, u238, u239, u240, u241, u242, u243, u244, u245, u246, u247, u248, u249, u250, u251, u252, u253, u254, u255, u256, u257, u258, u259, u260, u261, u262, u263, u264, u265, u266, u267, u268, u269, u270, u271, u272, u273, u274, u275, u276, u277, u278, u279, u280, u281, u282, u283, u284, u285, u286, u287, v288, v289, v290, v291, v292, v293, v294, v295, v296, v297, v298, v299, v300, v301, v302, v303, v304, v305, v306, v307, v308, v309, v310, v311, v312, v313, v314, v315, v316, v317, v318, v319, v320, v321, v322, v323, v324, v325, v326, v327, v328, v329, v330, v331, v332, v333, v334, v335, v336, v337, v338, v339, v340, v341, v342, v343, v344, v345, v346, v347, v348, v349, v350, v351, v352, v353, v354, v355], []⟩ wx) :
    Code.wp Tryd.prog (sub4 [1, 1, 1, 1, 1, 1, 0, 1] (Tryd.f29.body.getD .skip)) (Exit.then K Q) ⟨#[.pointer (some ⟨b3, 0, none⟩), v1, v2, .int .i64 0, v4, v5, v6, v7, v8, v9, v10, v11, v12, v13, .pointer (some ⟨bg, 0, none⟩), v15, v16, v17, v18, v19, v20, v21, v22, v23, v24, v25, v26, v27, v28, v29, v30, v31, v32, v33, v34, v35, v36, v37, v38, v39, v40, v41, v42, v43, v44, v45, v46, v47, v48, v49, v50, v51, v52, v53, v54, v55, v56, v57, v58, v59, v60, v61, v62, v63, v64, v65, v66, v67, v68, v69, v70, v71, v72, v73, v74, v75, v76, v77, v78, v79, v80, v81, v82, v83, v84, v85, v86, v87, v88, v89, v90, v91, v92, v93, v94, v95, v96, v97, v98, v99, v100, v101, v102, v103, v104, v105, v106, v107, v108, v109, v110, v111, v112, v113, v114, v115, v116, v117, v118, v119, v120, v121, v122, v123, v124, v125, v126, v127, v128, v129, v130, v131, v132, v133, v134, v135, v136, v137, v138, v139, v140, v141, v142, v143, v144, v145, v146, v147, v148, v149, v150, v151, v152, v153, v154, v155, v156, v157, v158, v159, v160, v161, v162, v163, v164, v165, v166, v167, v168, v169, v170, v171, v172, v173, v174, v175, v176, v177, v178, v179, v180, v181, v182, v183, v184, v185, v186, .slice (some ⟨bv, 0, none⟩) 16 cap, .int .i64 16, .int .i64 0, v190, v191, v192, v193, v194, v195, v196, v197, v198, v199, v200, v201, v202, v203, v204, v205, v206, v207, v208, v209, v210, v211, v212, v213, v214, v215, v216, v217, v218, v219, v220, v221, v222, v223, v224, v225, v226, v227, v228, v229, v230, v231, v232, v233, v234, v235, v236, v237, v238, v239, v240, v241, v242, v243, v244, v245, v246, v247, v248, v249, v250, v251, v252, v253, v254, v255, v256, v257, v258, v259, v260, v261, v262, v263, v264, v265, v266, v267, v268, v269, v270, v271, v272, v273, v274, v275, v276, v277, v278, v279, v280, v281, v282, v283, v284, v285, v286, v287, v288, v289, v290, v291, v292, v293, v294, v295, v296, v297, v298, v299, v300, v301, v302, v303, v304, v305, v306, v307, v308, v309, v310, v311, v312, v313, v314, v315, v316, v317, v318, v319, v320, v321, v322, v323, v324, v325, v326, v327, v328, v329, v330, v331, v332, v333, v334, v335, v336, v337, v338, v339, v340, v341, v342, v343, v344, v345, v346, v347, v348, v349, v350, v351, v352, v353, v354, v355], []⟩ w0 := by
  have Hrow := hide hrow
  have HZ := hide (And.intro hz6 hz)
  have HV := hide hV
  have HF := hide hF
  have HG := hide hG
  have H5 := hide h5
  clear hrow hz6 hz hV hF hG h5
  conv => arg 2; whnf
  go_wp2
  go_loopg [189] 16 (fun g s189 wr => ∃ k : Nat, s189 = .int .i64 k ∧ g + k = 16 ∧ wr.heap[b3]? = some (rowObj (lay (cornF f k)) 36) ∧ Keep b3 w0 wr)
  case atStart => exact ⟨0, rfl, rfl, by rw [cornF_zero]; exact unhide Hrow, Keep.refl _ _⟩
  case round =>
    obtain ⟨k, rfl, hg, hr, hk⟩ := hrel
    have Hg := hide hg
    by_cases c : k < 16
    · have c5 := row_cell hr 5 _ (lay_at _ (by omega))
      rw [cornF_other _ _ _ (by omega) (by omega) (by omega), unhide H5] at c5
      have c' : (k : Int) < 16 := by omega
      have c0 : (0 : Int) ≤ (k : Int) := by omega
      have hVr := (unhide HV).keep hk hne hvl
      have hFr : ∀ i, wr.frozen? ⟨bv, i, none⟩ = false := fun i => (World.frozen?_of_block (w := w0) (hk.block bv hvl hne)).trans (unhide HF i)
      have hGr : ∀ i, i < 3 → wr.cell? ⟨bg, i, none⟩ = some (.int .u32 0) := fun i hi => (World.cell?_of_block (w := w0) (hk.block bg hgl hgn)).trans (unhide HG i hi)
      have H1 := hide (And.intro (And.intro hr hk) (And.intro hVr (And.intro hFr hGr)))
      clear hg hr hk hVr hFr hGr
      go_upto_block 14 with fail
      refine goneLoop (b3 := b3) c (unhide H1).2.1 (unhide H1).2.2.1 (unhide H1).2.2.2 ?_
      intro u19 u199 u200 u201 u202 u203 u204 u205 u206 u207 u208 u209 u210 u211 u212 u213 u214 wx hx
      dsimp only
      have rx : wx.heap[b3]? = some (rowObj (lay (cornF f k)) 36) := by rw [hx.1]; exact (unhide H1).1.1
      have kx := (unhide H1).1.2.trans hx.2
      have Vx : Corners bv wx := fun a i v ha hv => (World.cell?_of_block (w := wr) (by rw [hx.1])).trans ((unhide H1).2.1 a i v ha hv)
      have d7 := Vx k 7 _ c rfl
      have c6 := row_cell rx (6 + k) _ (lay_at _ (by omega))
      rw [cornF_other _ _ _ (by omega) (by omega) (by omega), (unhide HZ).1 (6 + k) (by omega) (by omega)] at c6
      have f6 := row_free rx (6 + k)
      have s6 := row_set rx (6 + k) (.int .i32 1)
      rw [lay_set _ (by omega)] at s6
      have ew : IntKind.i32.wrap (0 + 1) = 1 := by decide
      have ew1 : IntKind.i32.wrap 1 = 1 := by decide
      have H2 := hide (And.intro (And.intro s6 kx) (And.intro Vx (lt_of_heap rx)))
      clear rx kx Vx s6 hx c5
      go_upto_region 47 with fail
      refine wp_region_noPanic ?_
      go_region
      refine NoPanic.normal ?_
      obtain ⟨W1, eW1⟩ : ∃ W1, W1 = (wx.setCell ⟨b3, 6 + k, none⟩ (.int .i32 1)).drew := ⟨_, rfl⟩
      have r1 : W1.heap[b3]? = some (rowObj (lay (upd (cornF f k) (6 + k) (.int .i32 1))) 36) := by rw [eW1]; exact (unhide H2).1.1
      have kw : Keep b3 wx W1 := by rw [eW1]; exact ((Keep.refl _ _).set _ _).drew
      have k1 := (unhide H2).1.2.trans kw
      have V1 := (unhide H2).2.1.keep kw hne (by have := (unhide H2).1.2.size; omega)
      rw [← eW1]
      have e8 : upd (cornF f k) (6 + k) (.int .i32 1) (86 + k) = .float .f64 0 := by
        unfold upd
        rw [if_neg (by omega), cornF_other _ _ _ (by omega) (by omega) (by omega)]
        exact (unhide HZ).2 _ (by omega) (by omega)
      have H3 := hide (And.intro (And.intro r1 k1) (And.intro V1 e8))
      clear r1 kw k1 V1 e8 eW1 c6 f6 d7
      go_upto_region 49 with fail
      refine radius c (unhide H3).2.2 (unhide H3).1.1 (unhide H3).2.1 ?_
      intro u239 u240 u241 u242 u243 u244 u245 u246 u247 u248 u249 u250 u251 u252 u253 u254 u255 u256 u257 u258 u259 wy hy
      dsimp only
      have ky := (unhide H3).1.2.trans hy.2
      have vy := (unhide H3).2.1.keep hy.2 hne (by have := (unhide H3).1.2.size; omega)
      have zy : ∀ j, j < 4 → upd (upd (cornF f k) (6 + k) (.int .i32 1)) (86 + k) (.float .f64 (acc 4)) (22 + k * 4 + j) = .float .f64 0 := by
        intro j hj
        unfold upd
        rw [if_neg (by omega), if_neg (by omega), cornF_other _ _ _ (by omega) (by omega) (by omega)]
        exact (unhide HZ).2 _ (by omega) (by omega)
      have H4 := hide (And.intro (And.intro hy.1 ky) (And.intro vy zy))
      clear ky vy zy hy
      go_upto_block 16 with fail
      refine extLoop c (unhide H4).1.1 (unhide H4).2.2 (unhide H4).2.1 hne (by have := (unhide H4).1.2.size; omega) ?_
      intro u21 u261 u262 u263 u264 u265 u266 u267 u268 u269 u270 u271 u272 u273 u274 u275 u276 u277 u278 u279 u280 u281 u282 u283 u284 u285 u286 wz hz
      have rz := hz.1
      rw [cornF_step _ _ c] at rz
      have kz := (unhide H4).1.2.trans hz.2
      have H5 := hide (And.intro rz kz)
      clear rz kz hz
      dsimp only
      go_wp2
      go_roundg (gk - 1)
      case measure => have := unhide Hg; omega
      case rel => exact ⟨k + 1, by go_num, by have := unhide Hg; omega, (unhide H5).1, (unhide H5).2⟩
    · obtain rfl : k = 16 := by omega
      have H2 := hide (And.intro hr hk)
      clear hg hr hk
      go_wp2
      exact unhide H2

end Go.Proofs.Qxb6614855aDoor
