/- prune's innermost loop: one corner's bounds are counted. -/
import Derived.Test.Qxb6614855aDoorLay
namespace Go.Proofs.Qxb6614855aDoor
open Go.RowKit

theorem and_low : ∀ y : Fin 256, y.val ≠ 0 → bits BinOp.and IntKind.u32 (y.val : Int) ((y.val : Int) - 1) = ((y.val &&& (y.val - 1) : Nat) : Int) := by decide +kernel

theorem tab_keep {w wr : World} {b : Nat} (h : TabAt 0 Lib.deBruijn32tab w) (hk : Keep b w wr) (hb : 0 < b) (hs : 0 < w.heap.size) : TabAt 0 Lib.deBruijn32tab wr :=
  fun j hj => (World.cell?_of_block (w := w) (hk.block 0 hs (by omega))).trans (h j hj)

set_option maxRecDepth 100000 in
set_option maxHeartbeats 2000000 in
theorem bitsLoop {Q : Exit → Act → World → Prop} {v1 v2 v3 v4 v5 v6 v7 v8 v9 v10 v13 v14 v15 v16 v17 v18 v19 v20 v21 v22 v23 v24 v25 v26 v27 v28 v29 v30 v31 v32 v33 v34 v35 v36 v37 v38 v39 v40 v41 v42 v43 v44 v45 v46 v47 v48 v49 v50 v51 v52 v53 v54 v55 v56 v57 v58 v59 v60 v61 v62 v63 v64 v65 v66 v67 v68 v69 v70 v71 v72 v73 v74 v75 v76 v77 v78 v79 v80 v81 v82 v83 v84 v85 v86 v87 v88 v89 v90 v91 v92 v93 v94 v95 v96 v97 v98 v99 v100 v101 v102 v103 v104 v105 v106 v107 v108 v109 v110 v111 v112 v113 v114 v115 v116 v117 v118 v119 v120 v121 v122 v123 v124 v125 v126 v127 v128 v129 v130 v131 v132 v133 v134 v135 v136 v137 v138 v139 v140 v141 v142 v143 v144 v145 v146 v147 v148 v149 v150 v151 v152 v153 v154 v155 v156 v157 v158 v159 v160 v161 v162 v163 v164 v165 v166 v167 v168 v169 v170 v171 v172 v173 v174 v175 v176 v177 v178 v179 v180 v181 v182 v183 v184 v185 v186 v187 v188 v189 v190 v191 v192 v193 v194 v195 v196 v197 v198 v199 v200 v201 v202 v203 v204 v205 v206 v207 v208 v209 v210 v211 v212 v213 v214 v215 v216 v217 v218 v219 v220 v221 v222 v223 v224 v225 v226 v227 v228 v229 v230 v231 v232 v233 v234 v235 v236 v237 v238 v239 v240 v241 v242 v243 v244 v245 v246 v247 v248 v249 v250 v251 v252 v253 v254 v255 v256 v257 v258 v259 v260 v261 v262 v263 v264 v265 v266 v267 v268 v269 v270 v271 v272 v273 v274 v275 v276 v277 v278 v279 v280 v281 v282 v283 v284 v285 v286 v287 v288 v289 v290 v291 v292 v293 v294 v295 v296 v297 v298 v299 v300 v301 v302 v303 v304 v305 v306 v307 v308 v309 v310 v311 v312 v313 v314 v315 v316 v317 v318 v319 v320 v321 v322 v323 v324 v325 v326 v327 v328 v329 v330 v331 v332 v333 v334 v335 v336 v337 v338 v339 v340 v341 v342 v343 v344 v345 v346 v347 v348 v349 v350 v351 v352 v353 v354 v355 : Value} {w0 : World} {b3 y : Nat} {f : Nat → Value} {n : Nat → Nat} (hy : y < 256) (hn : ∀ i, n i ≤ 16)
    (hrow : w0.heap[b3]? = some (rowObj (lay (onF f n)) 36)) (hT : TabAt 0 Lib.deBruijn32tab w0) (hb : 0 < b3) (hs : 0 < w0.heap.size)
    (hK : ∀ (u54 u55 u56 u57 u58 u59 u60 u61 u62 u63 u64 u65 u66 u67 u68 u69 u70 u71 u72 u73 : Value) (wx : World), (wx.heap[b3]? = some (rowObj (lay (onF f (fun i => n i + bit y i))) 36) ∧ Keep b3 w0 wx) → Q .normal ⟨#[.pointer (some ⟨b3, 0, none⟩), v1, v2, v3, v4, v5, v6, v7, v8, v9, v10, .int .i64 0, .int .u32 0, v13, v14, v15, v16, v17, v18, v19, v20, v21, v22, v23, v24, v25, v26, v27, v28, v29, v30, v31, v32, v33, v34, v35, v36, v37, v38, v39, v40, v41, v42, v43, v44, v45, v46, v47, v48, v49, v50, v51, v52, v53, u54, u55, u56, u57, u58, u59, u60, u61, u62, u63, u64, u65, u66, u67, u68, u69, u70, u71, u72, u73, v74, v75, v76, v77, v78, v79, v80, v81, v82, v83, v84, v85, v86, v87, v88, v89, v90, v91, v92, v93, v94, v95, v96, v97, v98, v99, v100, v101, v102, v103, v104, v105, v106, v107, v108, v109, v110, v111, v112, v113, v114, v115, v116, v117, v118, v119, v120, v121, v122, v123, v124, v125, v126, v127, v128, v129, v130, v131, v132, v133, v134, v135, v136, v137, v138, v139, v140, v141, v142, v143, v144, v145, v146, v147, v148, v149, v150, v151, v152, v153, v154, v155, v156, v157, v158, v159, v160, v161, v162, v163, v164, v165, v166, v167, v168, v169, v170, v171, v172, v173, v174, v175, v176, v177, v178, v179, v180, v181, v182, v183, v184, v185, v186, v187, v188, v189, v190, v191, v192, v193, v194, v195, v196, v197, v198, v199, v200, v201, v202, v203, v204, v205, v206, v207, v208, v209, v210, v211, v212, v213, v214, v215, v216, v217, v218, v219, v220, v221, v222, v223, v224, v225, v226, v227, v228, v229, v230, v231, v232, v233, v234, v235, v236, v237, v238, v239, v240, v241, v242, v243, v244, v245, v246, v247, v248, v249, v250, v251, v252, v253, v254, v255, v256, v257, v258, v259, v260, v261, v262, v263, v264, v265, v266, v267, v268, v269, v270, v271, v272, v273, v274, v275, v276, v277, v278, v279, v280, v281, v282, v283, v284, v285, v286, v287, v288, v289, v290, v291, v292, v293, v294, v295, v296, v297, v298, v299, v300, v301, v302, v303, v304, v305, v306, v307, v308, v309, v310, v311, v312, v313, v314, v315, v316, v317, v318, v319, v320, v321, v322, v323, v324, v325, v326, v327, v328, v329, v330, v331, v332, v333, v334, v335, v336, v337, v338, v339, v340, v341, v342, v343, v344, v345, v346, v347, v348, v349, v350, v351, v352, v353, v354, v355], []⟩ wx) :
    Code.wp Tryd.prog (sub4 [1, 0, 1, 4, 1, 1, 2, 3, 1, 1, 0, 2, 1, 1, 0, 1, 2, 3, 1, 1, 0, 2, 1] (Tryd.f29.body.getD .skip)) Q ⟨#[.pointer (some ⟨b3, 0, none⟩), v1, v2, v3, v4, v5, v6, v7, v8, v9, v10, .int .i64 0, .int .u32 y, v13, v14, v15, v16, v17, v18, v19, v20, v21, v22, v23, v24, v25, v26, v27, v28, v29, v30, v31, v32, v33, v34, v35, v36, v37, v38, v39, v40, v41, v42, v43, v44, v45, v46, v47, v48, v49, v50, v51, v52, v53, v54, v55, v56, v57, v58, v59, v60, v61, v62, v63, v64, v65, v66, v67, v68, v69, v70, v71, v72, v73, v74, v75, v76, v77, v78, v79, v80, v81, v82, v83, v84, v85, v86, v87, v88, v89, v90, v91, v92, v93, v94, v95, v96, v97, v98, v99, v100, v101, v102, v103, v104, v105, v106, v107, v108, v109, v110, v111, v112, v113, v114, v115, v116, v117, v118, v119, v120, v121, v122, v123, v124, v125, v126, v127, v128, v129, v130, v131, v132, v133, v134, v135, v136, v137, v138, v139, v140, v141, v142, v143, v144, v145, v146, v147, v148, v149, v150, v151, v152, v153, v154, v155, v156, v157, v158, v159, v160, v161, v162, v163, v164, v165, v166, v167, v168, v169, v170, v171, v172, v173, v174, v175, v176, v177, v178, v179, v180, v181, v182, v183, v184, v185, v186, v187, v188, v189, v190, v191, v192, v193, v194, v195, v196, v197, v198, v199, v200, v201, v202, v203, v204, v205, v206, v207, v208, v209, v210, v211, v212, v213, v214, v215, v216, v217, v218, v219, v220, v221, v222, v223, v224, v225, v226, v227, v228, v229, v230, v231, v232, v233, v234, v235, v236, v237, v238, v239, v240, v241, v242, v243, v244, v245, v246, v247, v248, v249, v250, v251, v252, v253, v254, v255, v256, v257, v258, v259, v260, v261, v262, v263, v264, v265, v266, v267, v268, v269, v270, v271, v272, v273, v274, v275, v276, v277, v278, v279, v280, v281, v282, v283, v284, v285, v286, v287, v288, v289, v290, v291, v292, v293, v294, v295, v296, v297, v298, v299, v300, v301, v302, v303, v304, v305, v306, v307, v308, v309, v310, v311, v312, v313, v314, v315, v316, v317, v318, v319, v320, v321, v322, v323, v324, v325, v326, v327, v328, v329, v330, v331, v332, v333, v334, v335, v336, v337, v338, v339, v340, v341, v342, v343, v344, v345, v346, v347, v348, v349, v350, v351, v352, v353, v354, v355], []⟩ w0 := by
  have Hrow := hide hrow
  have HT := hide hT
  have Hn := hide hn
  clear hrow hT hn
  conv => arg 2; whnf
  go_wp2
  go_loopg [12] y (fun g s12 wr => s12 = .int .u32 g ∧ g < 256 ∧ ∃ m : Nat → Nat, wr.heap[b3]? = some (rowObj (lay (onF f m)) 36) ∧ (∀ i, m i + bit g i = n i + bit y i) ∧ Keep b3 w0 wr)
  case atStart => exact ⟨rfl, hy, n, unhide Hrow, fun _ => rfl, Keep.refl _ _⟩
  case round =>
    obtain ⟨rfl, hg, m, hr, hm, hk⟩ := hrel
    by_cases c : gk = 0
    · subst c
      have e : m = fun i => n i + bit y i := by
        funext i
        have := hm i
        have z : bit 0 i = 0 := by simp [bit]
        omega
      rw [e] at hr
      have H2 := hide (And.intro hr hk)
      clear hr hm hk e
      go_wp2
      first
        | exact unhide H2
        | (apply hK; exact unhide H2)
    · obtain ⟨h1, h2, h3⟩ := low_step gk c hg m
      have hand := and_low ⟨gk, hg⟩ c
      dsimp only at hand
      have htz := tz_any gk wr.drew (by omega) c (fun j hj => (World.cell?_of_block (w := wr) rfl).trans (tab_keep (unhide HT) hk hb hs j hj))
      obtain ⟨t, et⟩ : ∃ t, t = Lib.ctz 32 gk := ⟨_, rfl⟩
      rw [← et] at htz h1 h3
      have hml : m t ≤ 17 := by
        have := hm t
        have := unhide Hn t
        have : bit y t ≤ 1 := by unfold bit; split <;> omega
        omega
      have hc := row_cell hr (102 + t) _ (lay_at _ (by omega))
      rw [onF_at _ _ _ (by omega)] at hc
      have hf := row_free hr (102 + t)
      have hset := row_set hr (102 + t) (.int .i16 (m t + 1 : Nat))
      rw [lay_set _ (by omega), onF_upd _ _ _ (by omega)] at hset
      obtain ⟨x, ex⟩ : ∃ x, x = m t := ⟨_, rfl⟩
      rw [← ex] at hc hset hml
      rw [show ((x + 1 : Nat) : Int) = (x : Int) + 1 from by omega] at hset
      have ewx : IntKind.i16.wrap ((x : Int) + 1) = (x : Int) + 1 := by simp [IntKind.wrap, IntKind.signed, IntKind.bits]; omega
      have hyy : ((gk : Int) != 0) = true := by simp; omega
      have hpos : 1 ≤ gk := by omega
      have Htz := hide htz
      have H2 := hide (And.intro hset (And.intro (fun i => (h3 i).trans (hm i)) (And.intro hk h2)))
      have Hand := hide hand
      clear htz hset h3 hm hk h2 hand et ex hr
      go_wp2_with fail
      have h96 : (t : Int) < 96 := by omega
      have h0t : (0 : Int) ≤ (t : Int) := by omega
      have ew1 : wrap64 (t : Int) = t := by unfold wrap64; omega
      have ew2 : IntKind.i64.wrap (t : Int) = t := by simp [IntKind.wrap, IntKind.signed, IntKind.bits]; omega
      have ew0 : IntKind.i64.wrap 0 = 0 := by decide
      have ew3 : IntKind.i64.wrap (0 + (t : Int)) = t := by rw [Int.zero_add]; exact ew2
      have ew4 : wrap64 (0 + (t : Int)) = t := by rw [Int.zero_add]; exact ew1
      have ew5 : (0 : Int) + (t : Int) = t := Int.zero_add _
      refine wp_region_noPanic ?_
      go_region_with (go_at_call 30; refine (unhide Htz).mono ?_; rintro e w' ⟨rfl, hw'⟩; subst hw')
      refine NoPanic.normal ?_
      go_wp2
      go_roundg (gk &&& (gk - 1))
      case measure => exact (unhide H2).2.2.2
      case rel =>
        have e1 := unhide Hand
        exact ⟨by rw [← e1], Nat.lt_trans (unhide H2).2.2.2 hg, bump m t, (unhide H2).1, (unhide H2).2.1, ((unhide H2).2.2.1.set _ _).drew⟩

end Go.Proofs.Qxb6614855aDoor
