/- prune: no plane is gone: a corner's bounds stay. -/
import Derived.Test.Qxb6614855aDoorP4
namespace Go.Proofs.Qxb6614855aDoor
open Go.RowKit

/-- A store of what is there. -/
theorem set_same {w : World} {b i : Nat} {x : Value} (h : w.cell? ⟨b, i, none⟩ = some x) : (w.setCell ⟨b, i, none⟩ x).heap = w.heap := by
  apply Array.ext_getElem?
  intro j
  by_cases e : b = j
  · subst e
    simp only [World.setCell, Array.getElem?_modify]
    unfold World.cell? at h
    cases hb : w.heap[b]? with
    | none => simp
    | some o =>
      rw [hb] at h
      cases o with
      | cells cs t fr =>
        simp at h
        simp only [if_true, Option.map_some]
        congr 2
        apply Array.ext_getElem?
        intro q
        by_cases eq : i = q
        · subst eq
          obtain ⟨hl, hv⟩ := Array.getElem?_eq_some_iff.1 h
          simp [hl, hv]
        · simp [eq]
      | _ => simp_all
  · exact Below.heap_setCell _ _ _ _ (fun x => e x.symm)

theorem andnot0 : ∀ y : Fin 256, bits BinOp.andNot IntKind.u32 (y.val : Int) 0 = (y.val : Int) := by decide +kernel

/-- The words of corner k. -/
def wordOf (k w : Nat) : Nat := if w = 0 then mask k else 0
theorem wordOf_lt (k w : Nat) : wordOf k w < 256 := by
  unfold wordOf
  split
  · exact mask_lt k
  · omega
theorem vtx_word (k : Nat) : ∀ w, w < 3 → (vtx k)[4 + w]? = some (.int .u32 (wordOf k w : Nat))
  | 0, _ => rfl
  | 1, _ => rfl
  | 2, _ => rfl
  | _ + 3, h => by omega

theorem Keep.same {b : Nat} {w0 w : World} (h : Keep b w0 w) {w' : World} (e1 : w'.heap = w.heap) (e2 : w'.os = w.os) (e3 : w'.tape = w.tape) (e4 : w'.output = w.output) : Keep b w0 w' :=
  ⟨e2.trans h.os, e3.trans h.tape, e4.trans h.output, by rw [e1]; exact h.size, fun i hi hne => by rw [e1]; exact h.block i hi hne⟩

set_option maxRecDepth 100000 in
set_option maxHeartbeats 2000000 in
theorem goneLoop {K : Act → World → Prop} {Q : Exit → Act → World → Prop} {v0 v1 v2 v3 v4 v5 v6 v7 v8 v9 v10 v11 v12 v13 v15 v16 v17 v19 v20 v21 v22 v23 v24 v25 v26 v27 v28 v29 v30 v31 v32 v33 v34 v35 v36 v37 v38 v39 v40 v41 v42 v43 v44 v45 v46 v47 v48 v49 v50 v51 v52 v53 v54 v55 v56 v57 v58 v59 v60 v61 v62 v63 v64 v65 v66 v67 v68 v69 v70 v71 v72 v73 v74 v75 v76 v77 v78 v79 v80 v81 v82 v83 v84 v85 v86 v87 v88 v89 v90 v91 v92 v93 v94 v95 v96 v97 v98 v99 v100 v101 v102 v103 v104 v105 v106 v107 v108 v109 v110 v111 v112 v113 v114 v115 v116 v117 v118 v119 v120 v121 v122 v123 v124 v125 v126 v127 v128 v129 v130 v131 v132 v133 v134 v135 v136 v137 v138 v139 v140 v141 v142 v143 v144 v145 v146 v147 v148 v149 v150 v151 v152 v153 v154 v155 v156 v157 v158 v159 v160 v161 v162 v163 v164 v165 v166 v167 v168 v169 v170 v171 v172 v173 v174 v175 v176 v177 v178 v179 v180 v181 v182 v183 v184 v185 v186 v187 v188 v189 v190 v191 v192 v193 v194 v195 v196 v197 v199 v200 v201 v202 v203 v204 v205 v206 v207 v208 v209 v210 v211 v212 v213 v214 v215 v216 v217 v218 v219 v220 v221 v222 v223 v224 v225 v226 v227 v228 v229 v230 v231 v232 v233 v234 v235 v236 v237 v238 v239 v240 v241 v242 v243 v244 v245 v246 v247 v248 v249 v250 v251 v252 v253 v254 v255 v256 v257 v258 v259 v260 v261 v262 v263 v264 v265 v266 v267 v268 v269 v270 v271 v272 v273 v274 v275 v276 v277 v278 v279 v280 v281 v282 v283 v284 v285 v286 v287 v288 v289 v290 v291 v292 v293 v294 v295 v296 v297 v298 v299 v300 v301 v302 v303 v304 v305 v306 v307 v308 v309 v310 v311 v312 v313 v314 v315 v316 v317 v318 v319 v320 v321 v322 v323 v324 v325 v326 v327 v328 v329 v330 v331 v332 v333 v334 v335 v336 v337 v338 v339 v340 v341 v342 v343 v344 v345 v346 v347 v348 v349 v350 v351 v352 v353 v354 v355 : Value} {w0 : World} {bg b3 bv k : Nat} (hk16 : k < 16) (hV : Corners bv w0) (hF : ∀ i, w0.frozen? ⟨bv, i, none⟩ = false)
    (hG : ∀ i, i < 3 → w0.cell? ⟨bg, i, none⟩ = some (.int .u32 0))
    (hK : ∀ (u19 u199 u200 u201 u202 u203 u204 u205 u206 u207 u208 u209 u210 u211 u212 u213 u214 : Value) (wx : World), (wx.heap = w0.heap ∧ Keep b3 w0 wx) → K ⟨#[v0, v1, v2, v3, v4, v5, v6, v7, v8, v9, v10, v11, v12, v13, .pointer (some ⟨bg, 0, none⟩), v15, v16, v17, .pointer (some ⟨bv, k * 12, none⟩), u19, v20, v21, v22, v23, v24, v25, v26, v27, v28, v29, v30, v31, v32, v33, v34, v35, v36, v37, v38, v39, v40, v41, v42, v43, v44, v45, v46, v47, v48, v49, v50, v51, v52, v53, v54, v55, v56, v57, v58, v59, v60, v61, v62, v63, v64, v65, v66, v67, v68, v69, v70, v71, v72, v73, v74, v75, v76, v77, v78, v79, v80, v81, v82, v83, v84, v85, v86, v87, v88, v89, v90, v91, v92, v93, v94, v95, v96, v97, v98, v99, v100, v101, v102, v103, v104, v105, v106, v107, v108, v109, v110, v111, v112, v113, v114, v115, v116, v117, v118, v119, v120, v121, v122, v123, v124, v125, v126, v127, v128, v129, v130, v131, v132, v133, v134, v135, v136, v137, v138, v139, v140, v141, v142, v143, v144, v145, v146, v147, v148, v149, v150, v151, v152, v153, v154, v155, v156, v157, v158, v159, v160, v161, v162, v163, v164, v165, v166, v167, v168, v169, v170, v171, v172, v173, v174, v175, v176, v177, v178, v179, v180, v181, v182, v183, v184, v185, v186, v187, v188, v189, v190, v191, v192, v193, v194, v195, v196, v197, .int .i64 3, u199, u200, u201, u202, u203, u204, u205, u206, u207, u208, u209, u210, u211, u212, u213, u214, v215, v216, v217, v218, v219, v220, v221, v222, v223, v224, v225, v226, v227, v228, v229, v230, v231, v232, v233, v234, v235, v236, v237, v238, v239, v240, v241, v242, v243, v244, v245, v246, v247, v248, v249, v250, v251, v252, v253, v254, v255, v256, v257, v258, v259, v260, v261, v262, v263, v264, v265, v266, v267, v268, v269, v270, v271, v272, v273, v274, v275, v276, v277, v278, v279, v280, v281, v282, v283, v284, v285, v286, v287, v288, v289, v290, v291, v292, v293, v294, v295, v296, v297, v298, v299, v300, v301, v302, v303, v304, v305, v306, v307, v308, v309, v310, v311, v312, v313, v314, v315, v316, v317, v318, v319, v320, v321, v322, v323, v324, v325, v326, v327, v328, v329, v330, v331, v332, v333, v334, v335, v336, v337, v338, v339, v340, v341, v342, v343, v344, v345, v346, v347, v348, v349, v350, v351, v352, v353, v354, v355], []⟩ wx) :
    Code.wp Tryd.prog (sub4 [1, 1, 1, 1, 1, 1, 0, 1, 2, 3, 1, 1, 0, 2, 1, 1, 0, 1] (Tryd.f29.body.getD .skip)) (Exit.then K Q) ⟨#[v0, v1, v2, v3, v4, v5, v6, v7, v8, v9, v10, v11, v12, v13, .pointer (some ⟨bg, 0, none⟩), v15, v16, v17, .pointer (some ⟨bv, k * 12, none⟩), v19, v20, v21, v22, v23, v24, v25, v26, v27, v28, v29, v30, v31, v32, v33, v34, v35, v36, v37, v38, v39, v40, v41, v42, v43, v44, v45, v46, v47, v48, v49, v50, v51, v52, v53, v54, v55, v56, v57, v58, v59, v60, v61, v62, v63, v64, v65, v66, v67, v68, v69, v70, v71, v72, v73, v74, v75, v76, v77, v78, v79, v80, v81, v82, v83, v84, v85, v86, v87, v88, v89, v90, v91, v92, v93, v94, v95, v96, v97, v98, v99, v100, v101, v102, v103, v104, v105, v106, v107, v108, v109, v110, v111, v112, v113, v114, v115, v116, v117, v118, v119, v120, v121, v122, v123, v124, v125, v126, v127, v128, v129, v130, v131, v132, v133, v134, v135, v136, v137, v138, v139, v140, v141, v142, v143, v144, v145, v146, v147, v148, v149, v150, v151, v152, v153, v154, v155, v156, v157, v158, v159, v160, v161, v162, v163, v164, v165, v166, v167, v168, v169, v170, v171, v172, v173, v174, v175, v176, v177, v178, v179, v180, v181, v182, v183, v184, v185, v186, v187, v188, v189, v190, v191, v192, v193, v194, v195, v196, v197, .int .i64 0, v199, v200, v201, v202, v203, v204, v205, v206, v207, v208, v209, v210, v211, v212, v213, v214, v215, v216, v217, v218, v219, v220, v221, v222, v223, v224, v225, v226, v227, v228, v229, v230, v231, v232, v233, v234, v235, v236, v237, v238, v239, v240, v241, v242, v243, v244, v245, v246, v247, v248, v249, v250, v251, v252, v253, v254, v255, v256, v257, v258, v259, v260, v261, v262, v263, v264, v265, v266, v267, v268, v269, v270, v271, v272, v273, v274, v275, v276, v277, v278, v279, v280, v281, v282, v283, v284, v285, v286, v287, v288, v289, v290, v291, v292, v293, v294, v295, v296, v297, v298, v299, v300, v301, v302, v303, v304, v305, v306, v307, v308, v309, v310, v311, v312, v313, v314, v315, v316, v317, v318, v319, v320, v321, v322, v323, v324, v325, v326, v327, v328, v329, v330, v331, v332, v333, v334, v335, v336, v337, v338, v339, v340, v341, v342, v343, v344, v345, v346, v347, v348, v349, v350, v351, v352, v353, v354, v355], []⟩ w0 := by
  have HV := hide hV
  have HF := hide hF
  have HG := hide hG
  clear hV hF hG
  conv => arg 2; whnf
  go_wp2
  go_loopg [198] 3 (fun g s198 wr => ∃ w : Nat, s198 = .int .i64 w ∧ g + w = 3 ∧ wr.heap = w0.heap ∧ Keep b3 w0 wr)
  case atStart => exact ⟨0, rfl, rfl, rfl, Keep.refl _ _⟩
  case round =>
    obtain ⟨w, rfl, hg, hh, hk⟩ := hrel
    have Hg := hide hg
    by_cases c : w < 3
    · have c' : (w : Int) < 3 := by omega
      have c0 : (0 : Int) ≤ (w : Int) := by omega
      have e1 : wr.cell? ⟨bv, k * 12 + (4 + w), none⟩ = some (.int .u32 (wordOf k w : Nat)) := (World.cell?_of_block (w := w0) (by rw [hh])).trans (unhide HV k (4 + w) _ hk16 (vtx_word k w c))
      have e2 : wr.cell? ⟨bg, w, none⟩ = some (.int .u32 0) := (World.cell?_of_block (w := w0) (by rw [hh])).trans (unhide HG w c)
      have e3 : wr.frozen? ⟨bv, k * 12 + (4 + w), none⟩ = false := (World.frozen?_of_block (w := w0) (by rw [hh])).trans (unhide HF _)
      rw [← Nat.add_assoc] at e1 e3
      have ha := andnot0 ⟨wordOf k w, wordOf_lt k w⟩
      dsimp only at ha
      obtain ⟨y, ey⟩ : ∃ y, y = wordOf k w := ⟨_, rfl⟩
      rw [← ey] at e1 ha
      have hs := set_same e1
      have H1 := hide (And.intro hs (And.intro hh hk))
      clear hg hh hk hs ey
      go_wp2_with fail
      refine wp_region_noPanic ?_
      go_region
      all_goals
        refine NoPanic.normal ?_
        go_wp2
        go_roundg (gk - 1)
        case measure => have := unhide Hg; omega
        case rel => exact ⟨w + 1, by go_num, by have := unhide Hg; omega, (unhide H1).1.trans (unhide H1).2.1, (unhide H1).2.2.same (unhide H1).1 rfl rfl rfl⟩
    · obtain rfl : w = 3 := by omega
      have H2 := hide (And.intro hh hk)
      clear hg hh hk
      go_wp2
      exact unhide H2

end Go.Proofs.Qxb6614855aDoor
