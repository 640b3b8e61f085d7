/- prune: the corners on each plane are counted. -/
import Derived.Test.Qxb6614855aDoorP2
namespace Go.Proofs.Qxb6614855aDoor
open Go.RowKit

/-- How many of the first k corners lie on plane i. -/
def cnt : Nat → Nat → Nat
  | 0, _ => 0
  | k + 1, i => cnt k i + bit (mask k) i
theorem cnt_le : ∀ k i, cnt k i ≤ k
  | 0, _ => Nat.le_refl _
  | k + 1, i => by
    have := cnt_le k i
    have : bit (mask k) i ≤ 1 := by unfold bit; split <;> omega
    unfold cnt
    omega
theorem cnt_succ (k : Nat) : (fun i => cnt k i + bit (mask k) i) = cnt (k + 1) := rfl

/-- The corners lie in block bv. -/
def Corners (bv : Nat) (w : World) : Prop := ∀ k i v, k < 16 → (vtx k)[i]? = some v → w.cell? ⟨bv, k * 12 + i, none⟩ = some v
theorem Corners.keep {b bv : Nat} {w0 w : World} (h : Corners bv w0) (hk : Keep b w0 w) (hne : bv ≠ b) (hlt : bv < w0.heap.size) : Corners bv w :=
  fun k i v hk' hv => (World.cell?_of_block (w := w0) (hk.block bv hlt hne)).trans (h k i v hk' hv)

theorem lt_of_heap {w : World} {b : Nat} {o : Obj} (h : w.heap[b]? = some o) : b < w.heap.size := by
  by_cases hl : b < w.heap.size
  · exact hl
  · rw [Array.getElem?_eq_none (by omega)] at h
    cases h

set_option maxRecDepth 100000 in
set_option maxHeartbeats 2000000 in
theorem countLoop {Q : Exit → Act → World → Prop} {v1 v2 v3 v4 v5 v6 v7 v8 v9 v10 v11 v12 v13 v14 v15 v16 v17 v18 v19 v20 v21 v22 v23 v24 v25 v26 v27 v28 v29 v30 v31 v32 v33 v34 v38 v39 v40 v41 v42 v43 v44 v45 v46 v47 v48 v49 v50 v51 v52 v53 v54 v55 v56 v57 v58 v59 v60 v61 v62 v63 v64 v65 v66 v67 v68 v69 v70 v71 v72 v73 v74 v75 v76 v77 v78 v79 v80 v81 v82 v83 v84 v85 v86 v87 v88 v89 v90 v91 v92 v93 v94 v95 v96 v97 v98 v99 v100 v101 v102 v103 v104 v105 v106 v107 v108 v109 v110 v111 v112 v113 v114 v115 v116 v117 v118 v119 v120 v121 v122 v123 v124 v125 v126 v127 v128 v129 v130 v131 v132 v133 v134 v135 v136 v137 v138 v139 v140 v141 v142 v143 v144 v145 v146 v147 v148 v149 v150 v151 v152 v153 v154 v155 v156 v157 v158 v159 v160 v161 v162 v163 v164 v165 v166 v167 v168 v169 v170 v171 v172 v173 v174 v175 v176 v177 v178 v179 v180 v181 v182 v183 v184 v185 v186 v187 v188 v189 v190 v191 v192 v193 v194 v195 v196 v197 v198 v199 v200 v201 v202 v203 v204 v205 v206 v207 v208 v209 v210 v211 v212 v213 v214 v215 v216 v217 v218 v219 v220 v221 v222 v223 v224 v225 v226 v227 v228 v229 v230 v231 v232 v233 v234 v235 v236 v237 v238 v239 v240 v241 v242 v243 v244 v245 v246 v247 v248 v249 v250 v251 v252 v253 v254 v255 v256 v257 v258 v259 v260 v261 v262 v263 v264 v265 v266 v267 v268 v269 v270 v271 v272 v273 v274 v275 v276 v277 v278 v279 v280 v281 v282 v283 v284 v285 v286 v287 v288 v289 v290 v291 v292 v293 v294 v295 v296 v297 v298 v299 v300 v301 v302 v303 v304 v305 v306 v307 v308 v309 v310 v311 v312 v313 v314 v315 v316 v317 v318 v319 v320 v321 v322 v323 v324 v325 v326 v327 v328 v329 v330 v331 v332 v333 v334 v335 v336 v337 v338 v339 v340 v341 v342 v343 v344 v345 v346 v347 v348 v349 v350 v351 v352 v353 v354 v355 : Value} {w0 : World} {b3 bv cap : Nat} {f : Nat → Value} (h5 : f 5 = .slice (some ⟨bv, 0, none⟩) 16 cap)
    (hrow : w0.heap[b3]? = some (rowObj (lay (onF f (cnt 0))) 36)) (hV : Corners bv w0) (hne : bv ≠ b3) (hvl : bv < w0.heap.size) (hT : TabAt 0 Lib.deBruijn32tab w0) (hb : 0 < b3) (hs : 0 < w0.heap.size)
    (hK : ∀ (u9 u10 u11 u12 u13 u38 u39 u40 u41 u42 u43 u44 u45 u46 u47 u48 u49 u50 u51 u52 u53 u54 u55 u56 u57 u58 u59 u60 u61 u62 u63 u64 u65 u66 u67 u68 u69 u70 u71 u72 u73 u74 u75 u76 u77 u78 u79 u80 u81 u82 u83 u84 u85 u86 u87 u88 u89 u90 u91 u92 u93 u94 u95 u96 : Value) (wx : World), (wx.heap[b3]? = some (rowObj (lay (onF f (cnt 16))) 36) ∧ Keep b3 w0 wx) → Q .normal ⟨#[.pointer (some ⟨b3, 0, none⟩), v1, v2, v3, v4, v5, v6, v7, v8, u9, u10, u11, u12, u13, v14, v15, v16, v17, v18, v19, v20, v21, v22, v23, v24, v25, v26, v27, v28, v29, v30, v31, v32, v33, v34, .slice (some ⟨bv, 0, none⟩) 16 cap, .int .i64 16, .int .i64 16, u38, u39, u40, u41, u42, u43, u44, u45, u46, u47, u48, u49, u50, u51, u52, u53, u54, u55, u56, u57, u58, u59, u60, u61, u62, u63, u64, u65, u66, u67, u68, u69, u70, u71, u72, u73, u74, u75, u76, u77, u78, u79, u80, u81, u82, u83, u84, u85, u86, u87, u88, u89, u90, u91, u92, u93, u94, u95, u96, v97, v98, v99, v100, v101, v102, v103, v104, v105, v106, v107, v108, v109, v110, v111, v112, v113, v114, v115, v116, v117, v118, v119, v120, v121, v122, v123, v124, v125, v126, v127, v128, v129, v130, v131, v132, v133, v134, v135, v136, v137, v138, v139, v140, v141, v142, v143, v144, v145, v146, v147, v148, v149, v150, v151, v152, v153, v154, v155, v156, v157, v158, v159, v160, v161, v162, v163, v164, v165, v166, v167, v168, v169, v170, v171, v172, v173, v174, v175, v176, v177, v178, v179, v180, v181, v182, v183, v184, v185, v186, v187, v188, v189, v190, v191, v192, v193, v194, v195, v196, v197, v198, v199, v200, v201, v202, v203, v204, v205, v206, v207, v208, v209, v210, v211, v212, v213, v214, v215, v216, v217, v218, v219, v220, v221, v222, v223, v224, v225, v226, v227, v228, v229, v230, v231, v232, v233, v234, v235, v236, v237, v238, v239, v240, v241, v242, v243, v244, v245, v246, v247, v248, v249, v250, v251, v252, v253, v254, v255, v256, v257, v258, v259, v260, v261, v262, v263, v264, v265, v266, v267, v268, v269, v270, v271, v272, v273, v274, v275, v276, v277, v278, v279, v280, v281, v282, v283, v284, v285, v286, v287, v288, v289, v290, v291, v292, v293, v294, v295, v296, v297, v298, v299, v300, v301, v302, v303, v304, v305, v306, v307, v308, v309, v310, v311, v312, v313, v314, v315, v316, v317, v318, v319, v320, v321, v322, v323, v324, v325, v326, v327, v328, v329, v330, v331, v332, v333, v334, v335, v336, v337, v338, v339, v340, v341, v342, v343, v344, v345, v346, v347, v348, v349, v350, v351, v352, v353, v354, v355], []⟩ wx) :
    Code.wp Tryd.prog (sub4 [1, 0, 1, 4, 1, 1] (Tryd.f29.body.getD .skip)) Q ⟨#[.pointer (some ⟨b3, 0, none⟩), v1, v2, v3, v4, v5, v6, v7, v8, v9, v10, v11, v12, v13, v14, v15, v16, v17, v18, v19, v20, v21, v22, v23, v24, v25, v26, v27, v28, v29, v30, v31, v32, v33, v34, .slice (some ⟨bv, 0, none⟩) 16 cap, .int .i64 16, .int .i64 0, v38, v39, v40, v41, v42, v43, v44, v45, v46, v47, v48, v49, v50, v51, v52, v53, v54, v55, v56, v57, v58, v59, v60, v61, v62, v63, v64, v65, v66, v67, v68, v69, v70, v71, v72, v73, v74, v75, v76, v77, v78, v79, v80, v81, v82, v83, v84, v85, v86, v87, v88, v89, v90, v91, v92, v93, v94, v95, v96, v97, v98, v99, v100, v101, v102, v103, v104, v105, v106, v107, v108, v109, v110, v111, v112, v113, v114, v115, v116, v117, v118, v119, v120, v121, v122, v123, v124, v125, v126, v127, v128, v129, v130, v131, v132, v133, v134, v135, v136, v137, v138, v139, v140, v141, v142, v143, v144, v145, v146, v147, v148, v149, v150, v151, v152, v153, v154, v155, v156, v157, v158, v159, v160, v161, v162, v163, v164, v165, v166, v167, v168, v169, v170, v171, v172, v173, v174, v175, v176, v177, v178, v179, v180, v181, v182, v183, v184, v185, v186, v187, v188, v189, v190, v191, v192, v193, v194, v195, v196, v197, v198, v199, v200, v201, v202, v203, v204, v205, v206, v207, v208, v209, v210, v211, v212, v213, v214, v215, v216, v217, v218, v219, v220, v221, v222, v223, v224, v225, v226, v227, v228, v229, v230, v231, v232, v233, v234, v235, v236, v237, v238, v239, v240, v241, v242, v243, v244, v245, v246, v247, v248, v249, v250, v251, v252, v253, v254, v255, v256, v257, v258, v259, v260, v261, v262, v263, v264, v265, v266, v267, v268, v269, v270, v271, v272, v273, v274, v275, v276, v277, v278, v279, v280, v281, v282, v283, v284, v285, v286, v287, v288, v289, v290, v291, v292, v293, v294, v295, v296, v297, v298, v299, v300, v301, v302, v303, v304, v305, v306, v307, v308, v309, v310, v311, v312, v313, v314, v315, v316, v317, v318, v319, v320, v321, v322, v323, v324, v325, v326, v327, v328, v329, v330, v331, v332, v333, v334, v335, v336, v337, v338, v339, v340, v341, v342, v343, v344, v345, v346, v347, v348, v349, v350, v351, v352, v353, v354, v355], []⟩ w0 := by
  have Hrow := hide hrow
  have HT := hide hT
  have HV := hide hV
  have H5 := hide h5
  clear hrow hT hV h5
  conv => arg 2; whnf
  go_wp2
  go_loopg [37] 16 (fun g s37 wr => ∃ k : Nat, s37 = .int .i64 k ∧ g + k = 16 ∧ wr.heap[b3]? = some (rowObj (lay (onF f (cnt k))) 36) ∧ Keep b3 w0 wr)
  case atStart => exact ⟨0, rfl, rfl, unhide Hrow, Keep.refl _ _⟩
  case round =>
    obtain ⟨k, rfl, hg, hr, hk⟩ := hrel
    have Hg := hide hg
    by_cases c : k < 16
    · have c5 := row_cell hr 5 _ (lay_at _ (by omega))
      have e5 : onF f (cnt k) 5 = .slice (some ⟨bv, 0, none⟩) 16 cap := by unfold onF; rw [if_neg (by omega)]; exact unhide H5
      rw [e5] at c5
      have hC := (unhide HV).keep hk hne hvl
      have d4 := hC k 4 _ c rfl
      have d5 := hC k 5 _ c rfl
      have d6 := hC k 6 _ c rfl
      have H1 := hide (And.intro hr hk)
      have HC := hide hC
      have hsz := hk.size
      have c' : (k : Int) < 16 := by omega
      clear hg hr hk e5 hC
      go_upto_block 2 with fail
      refine wordsLoop (k := k) (f := f) (n := cnt k) (fun i => by have := cnt_le k i; omega) (unhide H1).1 (tab_keep (unhide HT) (unhide H1).2 hb hs) hb (by omega) ?_
      intro u11 u12 u51 u52 u53 u54 u55 u56 u57 u58 u59 u60 u61 u62 u63 u64 u65 u66 u67 u68 u69 u70 u71 u72 u73 u74 wx hx
      dsimp only
      rw [cnt_succ] at hx
      have hCx := (unhide HC).keep hx.2 hne (by omega)
      have x4 := hCx k 4 _ c rfl
      have x5 := hCx k 5 _ c rfl
      have x6 := hCx k 6 _ c rfl
      have kx := (unhide H1).2.trans hx.2
      have lx := lt_of_heap hx.1
      have H2 := hide (And.intro hx.1 (And.intro kx lx))
      have Hct := hide (count_mask k c wx)
      clear hx hCx kx lx d4 d5 d6 c5
      go_wp2_with fail
      refine (unhide Hct).mono ?_
      rintro e w2 ⟨rfl, hb2⟩
      have H3 := hide (And.intro ((hb2.block b3 (unhide H2).2.2).trans (unhide H2).1) ((unhide H2).2.1.below (hb2.mono (unhide H2).2.1.size)))
      clear hb2 x4 x5 x6
      go_wp2
      go_roundg (gk - 1)
      case measure => have := unhide Hg; omega
      case rel => exact ⟨k + 1, by go_num, by have := unhide Hg; omega, (unhide H3).1, (unhide H3).2⟩
    · obtain rfl : k = 16 := by omega
      have H2 := hide (And.intro hr hk)
      clear hg hr hk
      go_wp2
      first
        | exact unhide H2
        | (apply hK; exact unhide H2)

end Go.Proofs.Qxb6614855aDoor
