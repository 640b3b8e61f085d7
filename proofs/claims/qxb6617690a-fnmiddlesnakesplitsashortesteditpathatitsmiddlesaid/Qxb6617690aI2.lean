import Derived.Test.Qxb6617690aI1
namespace Go.Proofs.Qxb6617690a
open Go.RowKit Plain

set_option maxRecDepth 100000 in
set_option maxHeartbeats 4000000 in
theorem loop2 {Q : Exit → Act → World → Prop} {v1 v3 v5 v6 v7 v8 v9 v10 v11 v12 v13 v20 v21 v22 v23 v24 v26 v27 v28 v29 v30 v31 v32 v33 v34 v35 v36 v37 v38 v39 v40 v41 v42 v43 v44 v45 v46 v47 v48 v49 v50 v51 v52 v53 v54 v55 v56 v57 v58 v59 v60 v61 v62 v63 v64 v65 v66 v67 v68 v69 v70 v71 v72 v73 v74 v75 v76 v77 v78 v79 v80 v81 v82 v83 v84 v85 v86 v87 v88 v89 v90 v91 v92 v93 v94 v95 v96 v97 v98 v99 v100 v101 v102 v103 v104 v105 v106 v107 v108 v109 v110 v111 v112 v113 v114 v115 v116 v117 v118 v119 v120 v121 v122 v123 v124 v125 v126 v127 v128 v129 v130 v131 v132 v133 v134 v135 v136 v137 v138 v139 v140 v141 v142 v143 v144 v145 v146 v147 v148 v149 v150 v151 v152 v153 v154 v155 v156 v157 v158 v159 v160 v161 v162 v163 v164 v165 v166 v167 v168 v169 v170 v171 v172 v173 v174 v175 v176 v177 v178 v179 v180 v181 v182 v183 v184 v185 v186 v187 v188 v189 v190 v191 v192 v193 v194 v195 v196 v197 v198 v199 v200 v201 v202 v203 v204 v205 v206 v207 v208 v209 v210 v211 v212 v213 v214 v215 v216 v217 v218 v219 v220 v221 v222 v223 v224 v225 v226 v227 v228 v229 v230 v231 v232 v233 v234 v235 v236 v237 v238 v239 v240 v241 v242 v243 v244 v245 v246 v247 v248 v249 v250 v251 v252 v253 v254 v255 v256 v257 v258 v259 v260 v261 v262 v263 v264 v265 v266 v267 v268 v269 v270 v271 v272 v273 v274 v275 v276 v277 v278 v279 v280 v281 v282 v283 v284 v285 v286 v287 v288 : Value}
    {w0 wr : World} {A B F G : List Int} {bc bf bg ba pa bb pb aLo bLo la lb ca cb LF LG cf cg : Nat} {oa ob : Option Addr} {od : Bool} {off d half aHi bHi : Nat} (haHi : aHi = aLo + A.length) (hbHi : bHi = bLo + B.length)
    (H : Handed w0 A B bc bf bg ba pa bb pb aLo bLo la lb ca cb LF LG cf cg oa ob) (S : St w0 bf bg F G wr) (lF : F.length = LF) (lG : G.length = LG)
    (P1 : Prev (mtL A.reverse B.reverse) off d G) (P2 : Prev (mtL A B) off ((d : Int) + 1) F) (hod : decide (((A.length : Int) - B.length) % 2 ≠ 0) = od)
    (hd : d ≤ half) (hh : half ≤ 5000) (ho : half ≤ off) (hF : off + half + 1 < LF) (hG : off + half + 1 < LG)
    (hN : ∀ F1, inner A.reverse B.reverse off d (chkB od ((A.length : Int) - B.length) A.length off d F) (d + 1) (-(d : Int)) G = (F1, none) → ∀ (u10 u11 u12 u13 u25 u26 u27 u28 u29 u181 u182 u183 u184 u185 u186 u187 u188 u189 u190 u191 u192 u193 u194 u195 u196 u197 u198 u199 u200 u201 u202 u203 u204 u205 u206 u207 u208 u209 u210 u211 u212 u213 u214 u215 u216 u217 u218 u219 u220 u221 u222 u223 u224 u225 u226 u227 u228 u229 u230 u231 u232 u233 u234 u235 u236 u237 u238 u239 u240 u241 u242 u243 u244 u245 u246 u247 u248 u249 u250 u251 u252 u253 u254 u255 u256 u257 u258 u259 u260 u261 u262 u263 u264 u265 u266 u267 u268 u269 u270 u271 u272 u273 u274 u275 u276 u277 u278 u279 u280 u281 u282 u283 u284 u285 u286 u287 : Value) (wx : World), St w0 bf bg F F1 wx → Q .normal ⟨#[.pointer (some ⟨bc, 0, none⟩), v1, .int .i64 aHi, v3, .int .i64 bHi, v5, v6, v7, v8, v9, u10, u11, u12, u13, .int .i64 A.length, .int .i64 B.length, .int .i64 ((A.length : Int) - B.length), .bool od, .int .i64 off, .int .i64 d, v20, v21, v22, v23, v24, u25, u26, u27, u28, u29, v30, v31, v32, v33, v34, v35, v36, v37, v38, v39, v40, v41, v42, v43, v44, v45, v46, v47, v48, v49, v50, v51, v52, v53, v54, v55, v56, v57, v58, v59, v60, v61, v62, v63, v64, v65, v66, v67, v68, v69, v70, v71, v72, v73, v74, v75, v76, v77, v78, v79, v80, v81, v82, v83, v84, v85, v86, v87, v88, v89, v90, v91, v92, v93, v94, v95, v96, v97, v98, v99, v100, v101, v102, v103, v104, v105, v106, v107, v108, v109, v110, v111, v112, v113, v114, v115, v116, v117, v118, v119, v120, v121, v122, v123, v124, v125, v126, v127, v128, v129, v130, v131, v132, v133, v134, v135, v136, v137, v138, v139, v140, v141, v142, v143, v144, v145, v146, v147, v148, v149, v150, v151, v152, v153, v154, v155, v156, v157, v158, v159, v160, v161, v162, v163, v164, v165, v166, v167, v168, v169, v170, v171, v172, v173, v174, v175, v176, v177, v178, v179, v180, u181, u182, u183, u184, u185, u186, u187, u188, u189, u190, u191, u192, u193, u194, u195, u196, u197, u198, u199, u200, u201, u202, u203, u204, u205, u206, u207, u208, u209, u210, u211, u212, u213, u214, u215, u216, u217, u218, u219, u220, u221, u222, u223, u224, u225, u226, u227, u228, u229, u230, u231, u232, u233, u234, u235, u236, u237, u238, u239, u240, u241, u242, u243, u244, u245, u246, u247, u248, u249, u250, u251, u252, u253, u254, u255, u256, u257, u258, u259, u260, u261, u262, u263, u264, u265, u266, u267, u268, u269, u270, u271, u272, u273, u274, u275, u276, u277, u278, u279, u280, u281, u282, u283, u284, u285, u286, u287, v288], []⟩ wx)
    (hR : ∀ F1 k s, inner A.reverse B.reverse off d (chkB od ((A.length : Int) - B.length) A.length off d F) (d + 1) (-(d : Int)) G = (F1, some (k, s)) → ∀ (u25 u26 u27 u28 u29 u181 u182 u183 u184 u185 u186 u187 u188 u189 u190 u191 u192 u193 u194 u195 u196 u197 u198 u199 u200 u201 u202 u203 u204 u205 u206 u207 u208 u209 u210 u211 u212 u213 u214 u215 u216 u217 u218 u219 u220 u221 u222 u223 u224 u225 u226 u227 u228 u229 u230 u231 u232 u233 u234 u235 u236 u237 u238 u239 u240 u241 u242 u243 u244 u245 u246 u247 u248 u249 u250 u251 u252 u253 u254 u255 u256 u257 u258 u259 u260 u261 u262 u263 u264 u265 u266 u267 u268 u269 u270 u271 u272 u273 u274 u275 u276 u277 u278 u279 u280 u281 u282 u283 u284 u285 u286 u287 : Value) (wx : World), St w0 bf bg F F1 wx → Q .ret ⟨#[.pointer (some ⟨bc, 0, none⟩), v1, .int .i64 aHi, v3, .int .i64 bHi, v5, v6, v7, v8, v9, .int .i64 ((aHi : Int) - runEnd A.reverse B.reverse s k), .int .i64 ((bHi : Int) - (runEnd A.reverse B.reverse s k - k)), .int .i64 ((aHi : Int) - s), .int .i64 ((bHi : Int) - (s - k)), .int .i64 A.length, .int .i64 B.length, .int .i64 ((A.length : Int) - B.length), .bool od, .int .i64 off, .int .i64 d, v20, v21, v22, v23, v24, u25, u26, u27, u28, u29, v30, v31, v32, v33, v34, v35, v36, v37, v38, v39, v40, v41, v42, v43, v44, v45, v46, v47, v48, v49, v50, v51, v52, v53, v54, v55, v56, v57, v58, v59, v60, v61, v62, v63, v64, v65, v66, v67, v68, v69, v70, v71, v72, v73, v74, v75, v76, v77, v78, v79, v80, v81, v82, v83, v84, v85, v86, v87, v88, v89, v90, v91, v92, v93, v94, v95, v96, v97, v98, v99, v100, v101, v102, v103, v104, v105, v106, v107, v108, v109, v110, v111, v112, v113, v114, v115, v116, v117, v118, v119, v120, v121, v122, v123, v124, v125, v126, v127, v128, v129, v130, v131, v132, v133, v134, v135, v136, v137, v138, v139, v140, v141, v142, v143, v144, v145, v146, v147, v148, v149, v150, v151, v152, v153, v154, v155, v156, v157, v158, v159, v160, v161, v162, v163, v164, v165, v166, v167, v168, v169, v170, v171, v172, v173, v174, v175, v176, v177, v178, v179, v180, u181, u182, u183, u184, u185, u186, u187, u188, u189, u190, u191, u192, u193, u194, u195, u196, u197, u198, u199, u200, u201, u202, u203, u204, u205, u206, u207, u208, u209, u210, u211, u212, u213, u214, u215, u216, u217, u218, u219, u220, u221, u222, u223, u224, u225, u226, u227, u228, u229, u230, u231, u232, u233, u234, u235, u236, u237, u238, u239, u240, u241, u242, u243, u244, u245, u246, u247, u248, u249, u250, u251, u252, u253, u254, u255, u256, u257, u258, u259, u260, u261, u262, u263, u264, u265, u266, u267, u268, u269, u270, u271, u272, u273, u274, u275, u276, u277, u278, u279, u280, u281, u282, u283, u284, u285, u286, u287, v288], []⟩ wx) :
    Code.wp Try.prog (sub [1, 1, 1, 1, 1, 1, 0, 1, 2, 3, 1, 0, 2, 1, 1] (Try.f11.body.getD .skip)) Q ⟨#[.pointer (some ⟨bc, 0, none⟩), v1, .int .i64 aHi, v3, .int .i64 bHi, v5, v6, v7, v8, v9, v10, v11, v12, v13, .int .i64 A.length, .int .i64 B.length, .int .i64 ((A.length : Int) - B.length), .bool od, .int .i64 off, .int .i64 d, v20, v21, v22, v23, v24, .int .i64 (-(d : Int)), v26, v27, v28, v29, v30, v31, v32, v33, v34, v35, v36, v37, v38, v39, v40, v41, v42, v43, v44, v45, v46, v47, v48, v49, v50, v51, v52, v53, v54, v55, v56, v57, v58, v59, v60, v61, v62, v63, v64, v65, v66, v67, v68, v69, v70, v71, v72, v73, v74, v75, v76, v77, v78, v79, v80, v81, v82, v83, v84, v85, v86, v87, v88, v89, v90, v91, v92, v93, v94, v95, v96, v97, v98, v99, v100, v101, v102, v103, v104, v105, v106, v107, v108, v109, v110, v111, v112, v113, v114, v115, v116, v117, v118, v119, v120, v121, v122, v123, v124, v125, v126, v127, v128, v129, v130, v131, v132, v133, v134, v135, v136, v137, v138, v139, v140, v141, v142, v143, v144, v145, v146, v147, v148, v149, v150, v151, v152, v153, v154, v155, v156, v157, v158, v159, v160, v161, v162, v163, v164, v165, v166, v167, v168, v169, v170, v171, v172, v173, v174, v175, v176, v177, v178, v179, v180, v181, v182, v183, v184, v185, v186, v187, v188, v189, v190, v191, v192, v193, v194, v195, v196, v197, v198, v199, v200, v201, v202, v203, v204, v205, v206, v207, v208, v209, v210, v211, v212, v213, v214, v215, v216, v217, v218, v219, v220, v221, v222, v223, v224, v225, v226, v227, v228, v229, v230, v231, v232, v233, v234, v235, v236, v237, v238, v239, v240, v241, v242, v243, v244, v245, v246, v247, v248, v249, v250, v251, v252, v253, v254, v255, v256, v257, v258, v259, v260, v261, v262, v263, v264, v265, v266, v267, v268, v269, v270, v271, v272, v273, v274, v275, v276, v277, v278, v279, v280, v281, v282, v283, v284, v285, v286, v287, v288], []⟩ wr := by
  have HN := hide hN
  have HR := hide hR
  have HH := hide H
  have Ha := hide haHi
  have Hb := hide hbHi
  have HS := hide S
  have HP1 := hide P1
  have HP2 := hide P2
  have Hod := hide hod
  clear hN hR H S P1 P2 hod haHi hbHi
  conv => arg 2; whnf
  go_wp2
  go_loopg [25] (d + 1) (fun g s25 wx => ∃ (k : Int) (F2 : List Int), s25 = .int .i64 k ∧ k + 2 * g = d + 2 ∧ -(d : Int) ≤ k ∧ F2.length = LG ∧ Prev (mtL A.reverse B.reverse) off d F2 ∧ inner A.reverse B.reverse off d (chkB od ((A.length : Int) - B.length) A.length off d F) g k F2 = inner A.reverse B.reverse off d (chkB od ((A.length : Int) - B.length) A.length off d F) (d + 1) (-(d : Int)) G ∧ St w0 bf bg F F2 wx)
  case atStart => exact ⟨-(d : Int), G, rfl, by omega, by omega, lG, unhide HP1, rfl, unhide HS⟩
  case round =>
    obtain ⟨k, F2, rfl, hk, k0, lF2, P1, hin, S2⟩ := hrel
    have Hk := hide hk
    have Hin := hide hin
    have HPx := hide P1
    have HSx := hide S2
    clear hin P1 S2
    by_cases c1 : k ≤ d
    · have par : (k + d) % 2 = 0 := by omega
      obtain ⟨c, hc⟩ : ∃ c, gk = c + 1 := ⟨gk - 1, by omega⟩
      subst hc
      clear hk
      go_upto_block 7 with fail
      refine round2 (half := half) (unhide Ha) (unhide Hb) (unhide HH) (unhide HSx) lF lF2 (unhide HPx) (unhide HP2) (unhide Hod) hd hh ho hF hG k0 c1 par ?_ ?_
      · intro hchk u26 u27 u28 u29 u186 u187 u188 u189 u190 u191 u192 u193 u194 u195 u196 u197 u198 u199 u200 u201 u202 u203 u204 u205 u206 u207 u208 u209 u210 u211 u212 u213 u214 u215 u216 u217 u218 u219 u220 u221 u222 u223 u224 u225 u226 u227 u228 u229 u230 u231 u232 u233 u234 u235 u236 u237 u238 u239 u240 u241 u242 u243 u244 u245 u246 u247 u248 u249 u250 u251 u252 u253 u254 u255 u256 u257 u258 u259 u260 u261 u262 u263 u264 u265 u266 u267 u268 u269 u270 u271 u272 u273 u274 u275 wx S3
        dsimp only
        have HS3 := hide S3
        have Hchk := hide hchk
        clear S3 hchk
        go_wp2_with fail
        go_roundg c
        case measure => omega
        case rel =>
          go_light
          exact ⟨k + 2, _, rfl, by have := unhide Hk; omega, by omega, by rw [List.length_set]; exact lF2, prev_set (unhide HPx) (by omega) par, by rw [← inner_none (unhide Hchk)]; exact unhide Hin, unhide HS3⟩
      · intro hchk u26 u27 u28 u29 u186 u187 u188 u189 u190 u191 u192 u193 u194 u195 u196 u197 u198 u199 u200 u201 u202 u203 u204 u205 u206 u207 u208 u209 u210 u211 u212 u213 u214 u215 u216 u217 u218 u219 u220 u221 u222 u223 u224 u225 u226 u227 u228 u229 u230 u231 u232 u233 u234 u235 u236 u237 u238 u239 u240 u241 u242 u243 u244 u245 u246 u247 u248 u249 u250 u251 u252 u253 u254 u255 u256 u257 u258 u259 u260 u261 u262 u263 u264 u265 u266 u267 u268 u269 u270 u271 u272 u273 u274 u275 u276 u277 u278 u279 u280 u281 u282 u283 u284 u285 u286 u287 wx S3
        dsimp only
        have e := unhide Hin
        rw [inner_some hchk] at e
        have hK := unhide HR _ _ _ e.symm
        have HS3 := hide S3
        clear S3 hchk e
        go_wp2_with fail
        exact unhide HS3
    · have hz : gk = 0 := by omega
      subst hz
      have e := unhide Hin
      have hK := unhide HN F2 e.symm
      clear hk e
      go_wp2_with fail
      exact unhide HSx
end Go.Proofs.Qxb6617690a
