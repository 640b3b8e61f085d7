import Derived.Test.Qxb6617690aR2
namespace Go.Proofs.Qxb6617690a
open Go.RowKit Plain

theorem inner_none {A B : List Int} {off d k : Int} {chk : Int → Int → Bool} {F : List Int} {c : Nat} (h : chk k (runEnd A B (fur F off k d) k) = false) :
    inner A B off d chk (c + 1) k F = inner A B off d chk c (k + 2) (F.set (off + k).toNat (runEnd A B (fur F off k d) k)) := by
  show (if chk k (runEnd A B (fur F off k d) k) = true then _ else _) = _
  rw [if_neg (by rw [h]; simp)]

theorem inner_some {A B : List Int} {off d k : Int} {chk : Int → Int → Bool} {F : List Int} {c : Nat} (h : chk k (runEnd A B (fur F off k d) k) = true) :
    inner A B off d chk (c + 1) k F = (F.set (off + k).toNat (runEnd A B (fur F off k d) k), some (k, fur F off k d)) := by
  show (if chk k (runEnd A B (fur F off k d) k) = true then _ else _) = _
  rw [if_pos h]

theorem prev_set {mt : Nat → Nat → Bool} {off d k x : Int} {F : List Int} (P : Prev mt off d F) (ho : d ≤ off) (par : (k + d) % 2 = 0) : Prev mt off d (F.set (off + k).toNat x) := by
  refine ⟨fun e => ?_, fun k' a b p => ?_⟩
  · rw [tb_set_other _ (by omega)]
    exact P.zero e
  · rw [tb_set_other _ (by omega)]
    exact P.past k' a b p

set_option maxRecDepth 100000 in
set_option maxHeartbeats 4000000 in
theorem loop1 {K : Act → World → Prop} {Q : Exit → Act → World → Prop} {v2 v4 v5 v6 v7 v8 v9 v10 v11 v12 v13 v21 v22 v23 v24 v25 v26 v27 v28 v29 v30 v31 v32 v33 v34 v35 v36 v37 v38 v39 v40 v41 v42 v43 v44 v45 v46 v47 v48 v49 v50 v51 v52 v53 v54 v55 v56 v57 v58 v59 v60 v61 v62 v63 v64 v65 v66 v67 v68 v69 v70 v71 v72 v73 v74 v75 v76 v77 v78 v79 v80 v81 v82 v83 v84 v85 v86 v87 v88 v89 v90 v91 v92 v93 v94 v95 v96 v97 v98 v99 v100 v101 v102 v103 v104 v105 v106 v107 v108 v109 v110 v111 v112 v113 v114 v115 v116 v117 v118 v119 v120 v121 v122 v123 v124 v125 v126 v127 v128 v129 v130 v131 v132 v133 v134 v135 v136 v137 v138 v139 v140 v141 v142 v143 v144 v145 v146 v147 v148 v149 v150 v151 v152 v153 v154 v155 v156 v157 v158 v159 v160 v161 v162 v163 v164 v165 v166 v167 v168 v169 v170 v171 v172 v173 v174 v175 v176 v177 v178 v179 v180 v181 v182 v183 v184 v185 v186 v187 v188 v189 v190 v191 v192 v193 v194 v195 v196 v197 v198 v199 v200 v201 v202 v203 v204 v205 v206 v207 v208 v209 v210 v211 v212 v213 v214 v215 v216 v217 v218 v219 v220 v221 v222 v223 v224 v225 v226 v227 v228 v229 v230 v231 v232 v233 v234 v235 v236 v237 v238 v239 v240 v241 v242 v243 v244 v245 v246 v247 v248 v249 v250 v251 v252 v253 v254 v255 v256 v257 v258 v259 v260 v261 v262 v263 v264 v265 v266 v267 v268 v269 v270 v271 v272 v273 v274 v275 v276 v277 v278 v279 v280 v281 v282 v283 v284 v285 v286 v287 v288 : Value}
    {w0 wr : World} {A B F G : List Int} {bc bf bg ba pa bb pb aLo bLo la lb ca cb LF LG cf cg : Nat} {oa ob : Option Addr} {od : Bool} {off d half : Nat}
    (H : Handed w0 A B bc bf bg ba pa bb pb aLo bLo la lb ca cb LF LG cf cg oa ob) (S : St w0 bf bg F G wr) (lF : F.length = LF) (lG : G.length = LG)
    (P1 : Prev (mtL A B) off d F) (P2 : Prev (mtL A.reverse B.reverse) off d G) (hod : decide (((A.length : Int) - B.length) % 2 ≠ 0) = od)
    (hd : d ≤ half) (hh : half ≤ 5000) (ho : half ≤ off) (hF : off + half + 1 < LF) (hG : off + half + 1 < LG)
    (hN : ∀ F1, inner A B off d (chkF od ((A.length : Int) - B.length) A.length off d G) (d + 1) (-(d : Int)) F = (F1, none) → ∀ (u10 u11 u12 u13 u20 u21 u22 u23 u24 u73 u74 u75 u76 u77 u78 u79 u80 u81 u82 u83 u84 u85 u86 u87 u88 u89 u90 u91 u92 u93 u94 u95 u96 u97 u98 u99 u100 u101 u102 u103 u104 u105 u106 u107 u108 u109 u110 u111 u112 u113 u114 u115 u116 u117 u118 u119 u120 u121 u122 u123 u124 u125 u126 u127 u128 u129 u130 u131 u132 u133 u134 u135 u136 u137 u138 u139 u140 u141 u142 u143 u144 u145 u146 u147 u148 u149 u150 u151 u152 u153 u154 u155 u156 u157 u158 u159 u160 u161 u162 u163 u164 u165 u166 u167 u168 u169 u170 u171 u172 u173 u174 u175 u176 u177 u178 : Value) (wx : World), St w0 bf bg F1 G wx → K ⟨#[.pointer (some ⟨bc, 0, none⟩), .int .i64 aLo, v2, .int .i64 bLo, v4, v5, v6, v7, v8, v9, u10, u11, u12, u13, .int .i64 A.length, .int .i64 B.length, .int .i64 ((A.length : Int) - B.length), .bool od, .int .i64 off, .int .i64 d, u20, u21, u22, u23, u24, v25, v26, v27, v28, v29, v30, v31, v32, v33, v34, v35, v36, v37, v38, v39, v40, v41, v42, v43, v44, v45, v46, v47, v48, v49, v50, v51, v52, v53, v54, v55, v56, v57, v58, v59, v60, v61, v62, v63, v64, v65, v66, v67, v68, v69, v70, v71, v72, u73, u74, u75, u76, u77, u78, u79, u80, u81, u82, u83, u84, u85, u86, u87, u88, u89, u90, u91, u92, u93, u94, u95, u96, u97, u98, u99, u100, u101, u102, u103, u104, u105, u106, u107, u108, u109, u110, u111, u112, u113, u114, u115, u116, u117, u118, u119, u120, u121, u122, u123, u124, u125, u126, u127, u128, u129, u130, u131, u132, u133, u134, u135, u136, u137, u138, u139, u140, u141, u142, u143, u144, u145, u146, u147, u148, u149, u150, u151, u152, u153, u154, u155, u156, u157, u158, u159, u160, u161, u162, u163, u164, u165, u166, u167, u168, u169, u170, u171, u172, u173, u174, u175, u176, u177, u178, v179, v180, v181, v182, v183, v184, v185, v186, v187, v188, v189, v190, v191, v192, v193, v194, v195, v196, v197, v198, v199, v200, v201, v202, v203, v204, v205, v206, v207, v208, v209, v210, v211, v212, v213, v214, v215, v216, v217, v218, v219, v220, v221, v222, v223, v224, v225, v226, v227, v228, v229, v230, v231, v232, v233, v234, v235, v236, v237, v238, v239, v240, v241, v242, v243, v244, v245, v246, v247, v248, v249, v250, v251, v252, v253, v254, v255, v256, v257, v258, v259, v260, v261, v262, v263, v264, v265, v266, v267, v268, v269, v270, v271, v272, v273, v274, v275, v276, v277, v278, v279, v280, v281, v282, v283, v284, v285, v286, v287, v288], []⟩ wx)
    (hR : ∀ F1 k s, inner A B off d (chkF od ((A.length : Int) - B.length) A.length off d G) (d + 1) (-(d : Int)) F = (F1, some (k, s)) → ∀ (u20 u21 u22 u23 u24 u73 u74 u75 u76 u77 u78 u79 u80 u81 u82 u83 u84 u85 u86 u87 u88 u89 u90 u91 u92 u93 u94 u95 u96 u97 u98 u99 u100 u101 u102 u103 u104 u105 u106 u107 u108 u109 u110 u111 u112 u113 u114 u115 u116 u117 u118 u119 u120 u121 u122 u123 u124 u125 u126 u127 u128 u129 u130 u131 u132 u133 u134 u135 u136 u137 u138 u139 u140 u141 u142 u143 u144 u145 u146 u147 u148 u149 u150 u151 u152 u153 u154 u155 u156 u157 u158 u159 u160 u161 u162 u163 u164 u165 u166 u167 u168 u169 u170 u171 u172 u173 u174 u175 u176 u177 u178 : Value) (wx : World), St w0 bf bg F1 G wx → Q .ret ⟨#[.pointer (some ⟨bc, 0, none⟩), .int .i64 aLo, v2, .int .i64 bLo, v4, v5, v6, v7, v8, v9, .int .i64 ((aLo : Int) + s), .int .i64 ((bLo : Int) + (s - k)), .int .i64 ((aLo : Int) + runEnd A B s k), .int .i64 ((bLo : Int) + (runEnd A B s k - k)), .int .i64 A.length, .int .i64 B.length, .int .i64 ((A.length : Int) - B.length), .bool od, .int .i64 off, .int .i64 d, u20, u21, u22, u23, u24, v25, v26, v27, v28, v29, v30, v31, v32, v33, v34, v35, v36, v37, v38, v39, v40, v41, v42, v43, v44, v45, v46, v47, v48, v49, v50, v51, v52, v53, v54, v55, v56, v57, v58, v59, v60, v61, v62, v63, v64, v65, v66, v67, v68, v69, v70, v71, v72, u73, u74, u75, u76, u77, u78, u79, u80, u81, u82, u83, u84, u85, u86, u87, u88, u89, u90, u91, u92, u93, u94, u95, u96, u97, u98, u99, u100, u101, u102, u103, u104, u105, u106, u107, u108, u109, u110, u111, u112, u113, u114, u115, u116, u117, u118, u119, u120, u121, u122, u123, u124, u125, u126, u127, u128, u129, u130, u131, u132, u133, u134, u135, u136, u137, u138, u139, u140, u141, u142, u143, u144, u145, u146, u147, u148, u149, u150, u151, u152, u153, u154, u155, u156, u157, u158, u159, u160, u161, u162, u163, u164, u165, u166, u167, u168, u169, u170, u171, u172, u173, u174, u175, u176, u177, u178, v179, v180, v181, v182, v183, v184, v185, v186, v187, v188, v189, v190, v191, v192, v193, v194, v195, v196, v197, v198, v199, v200, v201, v202, v203, v204, v205, v206, v207, v208, v209, v210, v211, v212, v213, v214, v215, v216, v217, v218, v219, v220, v221, v222, v223, v224, v225, v226, v227, v228, v229, v230, v231, v232, v233, v234, v235, v236, v237, v238, v239, v240, v241, v242, v243, v244, v245, v246, v247, v248, v249, v250, v251, v252, v253, v254, v255, v256, v257, v258, v259, v260, v261, v262, v263, v264, v265, v266, v267, v268, v269, v270, v271, v272, v273, v274, v275, v276, v277, v278, v279, v280, v281, v282, v283, v284, v285, v286, v287, v288], []⟩ wx) :
    Code.wp Try.prog (sub [1, 1, 1, 1, 1, 1, 0, 1, 2, 3, 1, 0, 2, 0, 1] (Try.f11.body.getD .skip)) (Exit.then K Q) ⟨#[.pointer (some ⟨bc, 0, none⟩), .int .i64 aLo, v2, .int .i64 bLo, v4, v5, v6, v7, v8, v9, v10, v11, v12, v13, .int .i64 A.length, .int .i64 B.length, .int .i64 ((A.length : Int) - B.length), .bool od, .int .i64 off, .int .i64 d, .int .i64 (-(d : Int)), v21, v22, v23, v24, v25, v26, v27, v28, v29, v30, v31, v32, v33, v34, v35, v36, v37, v38, v39, v40, v41, v42, v43, v44, v45, v46, v47, v48, v49, v50, v51, v52, v53, v54, v55, v56, v57, v58, v59, v60, v61, v62, v63, v64, v65, v66, v67, v68, v69, v70, v71, v72, v73, v74, v75, v76, v77, v78, v79, v80, v81, v82, v83, v84, v85, v86, v87, v88, v89, v90, v91, v92, v93, v94, v95, v96, v97, v98, v99, v100, v101, v102, v103, v104, v105, v106, v107, v108, v109, v110, v111, v112, v113, v114, v115, v116, v117, v118, v119, v120, v121, v122, v123, v124, v125, v126, v127, v128, v129, v130, v131, v132, v133, v134, v135, v136, v137, v138, v139, v140, v141, v142, v143, v144, v145, v146, v147, v148, v149, v150, v151, v152, v153, v154, v155, v156, v157, v158, v159, v160, v161, v162, v163, v164, v165, v166, v167, v168, v169, v170, v171, v172, v173, v174, v175, v176, v177, v178, v179, v180, v181, v182, v183, v184, v185, v186, v187, v188, v189, v190, v191, v192, v193, v194, v195, v196, v197, v198, v199, v200, v201, v202, v203, v204, v205, v206, v207, v208, v209, v210, v211, v212, v213, v214, v215, v216, v217, v218, v219, v220, v221, v222, v223, v224, v225, v226, v227, v228, v229, v230, v231, v232, v233, v234, v235, v236, v237, v238, v239, v240, v241, v242, v243, v244, v245, v246, v247, v248, v249, v250, v251, v252, v253, v254, v255, v256, v257, v258, v259, v260, v261, v262, v263, v264, v265, v266, v267, v268, v269, v270, v271, v272, v273, v274, v275, v276, v277, v278, v279, v280, v281, v282, v283, v284, v285, v286, v287, v288], []⟩ wr := by
  have HN := hide hN
  have HR := hide hR
  have HH := hide H
  have HS := hide S
  have HP1 := hide P1
  have HP2 := hide P2
  have Hod := hide hod
  clear hN hR H S P1 P2 hod
  conv => arg 2; whnf
  go_wp2
  go_loopg [20] (d + 1) (fun g s20 wx => ∃ (k : Int) (F2 : List Int), s20 = .int .i64 k ∧ k + 2 * g = d + 2 ∧ -(d : Int) ≤ k ∧ F2.length = LF ∧ Prev (mtL A B) off d F2 ∧ inner A B off d (chkF od ((A.length : Int) - B.length) A.length off d G) g k F2 = inner A B off d (chkF od ((A.length : Int) - B.length) A.length off d G) (d + 1) (-(d : Int)) F ∧ St w0 bf bg F2 G wx)
  case atStart => exact ⟨-(d : Int), F, rfl, by omega, by omega, lF, unhide HP1, rfl, unhide HS⟩
  case round =>
    obtain ⟨k, F2, rfl, hk, k0, lF2, P1, hin, S2⟩ := hrel
    have Hk := hide hk
    have Hin := hide hin
    have HPx := hide P1
    have HSx := hide S2
    clear hin P1 S2
    by_cases c1 : k ≤ d
    · have par : (k + d) % 2 = 0 := by omega
      obtain ⟨c, hc⟩ : ∃ c, gk = c + 1 := ⟨gk - 1, by omega⟩
      subst hc
      clear hk
      go_upto_block 3 with fail
      refine round1 (half := half) (unhide HH) (unhide HSx) lF2 lG (unhide HPx) (unhide HP2) (unhide Hod) hd hh ho hF hG k0 c1 par ?_ ?_
      · intro hchk u21 u22 u23 u24 u78 u79 u80 u81 u82 u83 u84 u85 u86 u87 u88 u89 u90 u91 u92 u93 u94 u95 u96 u97 u98 u99 u100 u101 u102 u103 u104 u105 u106 u107 u108 u109 u110 u111 u112 u113 u114 u115 u116 u117 u118 u119 u120 u121 u122 u123 u124 u125 u126 u127 u128 u129 u130 u131 u132 u133 u134 u135 u136 u137 u138 u139 u140 u141 u142 u143 u144 u145 u146 u147 u148 u149 u150 u151 u152 u153 u154 u155 u156 u157 u158 u159 u160 u161 u162 u163 u164 u165 u166 wx S3
        dsimp only
        have HS3 := hide S3
        have Hchk := hide hchk
        clear S3 hchk
        go_wp2_with fail
        go_roundg c
        case measure => omega
        case rel =>
          go_light
          exact ⟨k + 2, _, rfl, by have := unhide Hk; omega, by omega, by rw [List.length_set]; exact lF2, prev_set (unhide HPx) (by omega) par, by rw [← inner_none (unhide Hchk)]; exact unhide Hin, unhide HS3⟩
      · intro hchk u21 u22 u23 u24 u78 u79 u80 u81 u82 u83 u84 u85 u86 u87 u88 u89 u90 u91 u92 u93 u94 u95 u96 u97 u98 u99 u100 u101 u102 u103 u104 u105 u106 u107 u108 u109 u110 u111 u112 u113 u114 u115 u116 u117 u118 u119 u120 u121 u122 u123 u124 u125 u126 u127 u128 u129 u130 u131 u132 u133 u134 u135 u136 u137 u138 u139 u140 u141 u142 u143 u144 u145 u146 u147 u148 u149 u150 u151 u152 u153 u154 u155 u156 u157 u158 u159 u160 u161 u162 u163 u164 u165 u166 u167 u168 u169 u170 u171 u172 u173 u174 u175 u176 u177 u178 wx S3
        dsimp only
        have e := unhide Hin
        rw [inner_some hchk] at e
        have hK := unhide HR _ _ _ e.symm
        have HS3 := hide S3
        clear S3 hchk e
        go_wp2_with fail
        exact unhide HS3
    · have hz : gk = 0 := by omega
      subst hz
      have e := unhide Hin
      have hK := unhide HN F2 e.symm
      clear hk e
      go_wp2_with fail
      exact unhide HSx
end Go.Proofs.Qxb6617690a
