import Derived.Test.Qxb6617690aW2
import Derived.Deep.CutBlock
namespace Go.Proofs.Qxb6617690a
open Go.RowKit Plain

set_option maxRecDepth 100000 in
set_option maxHeartbeats 4000000 in
theorem round1 {K : Act → World → Prop} {Q : Exit → Act → World → Prop} {v2 v4 v5 v6 v7 v8 v9 v10 v11 v12 v13 v21 v22 v23 v24 v25 v26 v27 v28 v29 v30 v31 v32 v33 v34 v35 v36 v37 v38 v39 v40 v41 v42 v43 v44 v45 v46 v47 v48 v49 v50 v51 v52 v53 v54 v55 v56 v57 v58 v59 v60 v61 v62 v63 v64 v65 v66 v67 v68 v69 v70 v71 v72 v73 v74 v75 v76 v77 v78 v79 v80 v81 v82 v83 v84 v85 v86 v87 v88 v89 v90 v91 v92 v93 v94 v95 v96 v97 v98 v99 v100 v101 v102 v103 v104 v105 v106 v107 v108 v109 v110 v111 v112 v113 v114 v115 v116 v117 v118 v119 v120 v121 v122 v123 v124 v125 v126 v127 v128 v129 v130 v131 v132 v133 v134 v135 v136 v137 v138 v139 v140 v141 v142 v143 v144 v145 v146 v147 v148 v149 v150 v151 v152 v153 v154 v155 v156 v157 v158 v159 v160 v161 v162 v163 v164 v165 v166 v167 v168 v169 v170 v171 v172 v173 v174 v175 v176 v177 v178 v179 v180 v181 v182 v183 v184 v185 v186 v187 v188 v189 v190 v191 v192 v193 v194 v195 v196 v197 v198 v199 v200 v201 v202 v203 v204 v205 v206 v207 v208 v209 v210 v211 v212 v213 v214 v215 v216 v217 v218 v219 v220 v221 v222 v223 v224 v225 v226 v227 v228 v229 v230 v231 v232 v233 v234 v235 v236 v237 v238 v239 v240 v241 v242 v243 v244 v245 v246 v247 v248 v249 v250 v251 v252 v253 v254 v255 v256 v257 v258 v259 v260 v261 v262 v263 v264 v265 v266 v267 v268 v269 v270 v271 v272 v273 v274 v275 v276 v277 v278 v279 v280 v281 v282 v283 v284 v285 v286 v287 v288 : Value}
    {w0 wr : World} {A B F G : List Int} {bc bf bg ba pa bb pb aLo bLo la lb ca cb LF LG cf cg : Nat} {oa ob : Option Addr} {od : Bool} {off d half : Nat} {k : Int}
    (H : Handed w0 A B bc bf bg ba pa bb pb aLo bLo la lb ca cb LF LG cf cg oa ob) (S : St w0 bf bg F G wr) (lF : F.length = LF) (lG : G.length = LG)
    (P1 : Prev (mtL A B) off d F) (P2 : Prev (mtL A.reverse B.reverse) off d G) (hod : decide (((A.length : Int) - B.length) % 2 ≠ 0) = od)
    (hd : d ≤ half) (hh : half ≤ 5000) (ho : half ≤ off) (hF : off + half + 1 < LF) (hG : off + half + 1 < LG) (k0 : -(d : Int) ≤ k) (k1 : k ≤ d) (par : (k + d) % 2 = 0)
    (hN : chkF od ((A.length : Int) - B.length) A.length off d G k (runEnd A B (fur F off k d) k) = false → ∀ (u21 u22 u23 u24 u78 u79 u80 u81 u82 u83 u84 u85 u86 u87 u88 u89 u90 u91 u92 u93 u94 u95 u96 u97 u98 u99 u100 u101 u102 u103 u104 u105 u106 u107 u108 u109 u110 u111 u112 u113 u114 u115 u116 u117 u118 u119 u120 u121 u122 u123 u124 u125 u126 u127 u128 u129 u130 u131 u132 u133 u134 u135 u136 u137 u138 u139 u140 u141 u142 u143 u144 u145 u146 u147 u148 u149 u150 u151 u152 u153 u154 u155 u156 u157 u158 u159 u160 u161 u162 u163 u164 u165 u166 : Value) (wx : World), St w0 bf bg (F.set ((off : Int) + k).toNat (runEnd A B (fur F off k d) k)) G wx → K ⟨#[.pointer (some ⟨bc, 0, none⟩), .int .i64 aLo, v2, .int .i64 bLo, v4, v5, v6, v7, v8, v9, v10, v11, v12, v13, .int .i64 A.length, .int .i64 B.length, .int .i64 ((A.length : Int) - B.length), .bool od, .int .i64 off, .int .i64 d, .int .i64 k, u21, u22, u23, u24, v25, v26, v27, v28, v29, v30, v31, v32, v33, v34, v35, v36, v37, v38, v39, v40, v41, v42, v43, v44, v45, v46, v47, v48, v49, v50, v51, v52, v53, v54, v55, v56, v57, v58, v59, v60, v61, v62, v63, v64, v65, v66, v67, v68, v69, v70, v71, v72, v73, v74, v75, v76, v77, u78, u79, u80, u81, u82, u83, u84, u85, u86, u87, u88, u89, u90, u91, u92, u93, u94, u95, u96, u97, u98, u99, u100, u101, u102, u103, u104, u105, u106, u107, u108, u109, u110, u111, u112, u113, u114, u115, u116, u117, u118, u119, u120, u121, u122, u123, u124, u125, u126, u127, u128, u129, u130, u131, u132, u133, u134, u135, u136, u137, u138, u139, u140, u141, u142, u143, u144, u145, u146, u147, u148, u149, u150, u151, u152, u153, u154, u155, u156, u157, u158, u159, u160, u161, u162, u163, u164, u165, u166, v167, v168, v169, v170, v171, v172, v173, v174, v175, v176, v177, v178, v179, v180, v181, v182, v183, v184, v185, v186, v187, v188, v189, v190, v191, v192, v193, v194, v195, v196, v197, v198, v199, v200, v201, v202, v203, v204, v205, v206, v207, v208, v209, v210, v211, v212, v213, v214, v215, v216, v217, v218, v219, v220, v221, v222, v223, v224, v225, v226, v227, v228, v229, v230, v231, v232, v233, v234, v235, v236, v237, v238, v239, v240, v241, v242, v243, v244, v245, v246, v247, v248, v249, v250, v251, v252, v253, v254, v255, v256, v257, v258, v259, v260, v261, v262, v263, v264, v265, v266, v267, v268, v269, v270, v271, v272, v273, v274, v275, v276, v277, v278, v279, v280, v281, v282, v283, v284, v285, v286, v287, v288], []⟩ wx)
    (hR : chkF od ((A.length : Int) - B.length) A.length off d G k (runEnd A B (fur F off k d) k) = true → ∀ (u21 u22 u23 u24 u78 u79 u80 u81 u82 u83 u84 u85 u86 u87 u88 u89 u90 u91 u92 u93 u94 u95 u96 u97 u98 u99 u100 u101 u102 u103 u104 u105 u106 u107 u108 u109 u110 u111 u112 u113 u114 u115 u116 u117 u118 u119 u120 u121 u122 u123 u124 u125 u126 u127 u128 u129 u130 u131 u132 u133 u134 u135 u136 u137 u138 u139 u140 u141 u142 u143 u144 u145 u146 u147 u148 u149 u150 u151 u152 u153 u154 u155 u156 u157 u158 u159 u160 u161 u162 u163 u164 u165 u166 u167 u168 u169 u170 u171 u172 u173 u174 u175 u176 u177 u178 : Value) (wx : World), St w0 bf bg (F.set ((off : Int) + k).toNat (runEnd A B (fur F off k d) k)) G wx → Q .ret ⟨#[.pointer (some ⟨bc, 0, none⟩), .int .i64 aLo, v2, .int .i64 bLo, v4, v5, v6, v7, v8, v9, .int .i64 ((aLo : Int) + fur F off k d), .int .i64 ((bLo : Int) + (fur F off k d - k)), .int .i64 ((aLo : Int) + runEnd A B (fur F off k d) k), .int .i64 ((bLo : Int) + (runEnd A B (fur F off k d) k - k)), .int .i64 A.length, .int .i64 B.length, .int .i64 ((A.length : Int) - B.length), .bool od, .int .i64 off, .int .i64 d, .int .i64 k, u21, u22, u23, u24, v25, v26, v27, v28, v29, v30, v31, v32, v33, v34, v35, v36, v37, v38, v39, v40, v41, v42, v43, v44, v45, v46, v47, v48, v49, v50, v51, v52, v53, v54, v55, v56, v57, v58, v59, v60, v61, v62, v63, v64, v65, v66, v67, v68, v69, v70, v71, v72, v73, v74, v75, v76, v77, u78, u79, u80, u81, u82, u83, u84, u85, u86, u87, u88, u89, u90, u91, u92, u93, u94, u95, u96, u97, u98, u99, u100, u101, u102, u103, u104, u105, u106, u107, u108, u109, u110, u111, u112, u113, u114, u115, u116, u117, u118, u119, u120, u121, u122, u123, u124, u125, u126, u127, u128, u129, u130, u131, u132, u133, u134, u135, u136, u137, u138, u139, u140, u141, u142, u143, u144, u145, u146, u147, u148, u149, u150, u151, u152, u153, u154, u155, u156, u157, u158, u159, u160, u161, u162, u163, u164, u165, u166, u167, u168, u169, u170, u171, u172, u173, u174, u175, u176, u177, u178, v179, v180, v181, v182, v183, v184, v185, v186, v187, v188, v189, v190, v191, v192, v193, v194, v195, v196, v197, v198, v199, v200, v201, v202, v203, v204, v205, v206, v207, v208, v209, v210, v211, v212, v213, v214, v215, v216, v217, v218, v219, v220, v221, v222, v223, v224, v225, v226, v227, v228, v229, v230, v231, v232, v233, v234, v235, v236, v237, v238, v239, v240, v241, v242, v243, v244, v245, v246, v247, v248, v249, v250, v251, v252, v253, v254, v255, v256, v257, v258, v259, v260, v261, v262, v263, v264, v265, v266, v267, v268, v269, v270, v271, v272, v273, v274, v275, v276, v277, v278, v279, v280, v281, v282, v283, v284, v285, v286, v287, v288], []⟩ wx) :
    Code.wp Try.prog (sub [1, 1, 1, 1, 1, 1, 0, 1, 2, 3, 1, 0, 2, 0, 1, 2, 3, 1, 0] (Try.f11.body.getD .skip)) (Exit.then K Q) ⟨#[.pointer (some ⟨bc, 0, none⟩), .int .i64 aLo, v2, .int .i64 bLo, v4, v5, v6, v7, v8, v9, v10, v11, v12, v13, .int .i64 A.length, .int .i64 B.length, .int .i64 ((A.length : Int) - B.length), .bool od, .int .i64 off, .int .i64 d, .int .i64 k, v21, v22, v23, v24, v25, v26, v27, v28, v29, v30, v31, v32, v33, v34, v35, v36, v37, v38, v39, v40, v41, v42, v43, v44, v45, v46, v47, v48, v49, v50, v51, v52, v53, v54, v55, v56, v57, v58, v59, v60, v61, v62, v63, v64, v65, v66, v67, v68, v69, v70, v71, v72, v73, v74, v75, v76, v77, v78, v79, v80, v81, v82, v83, v84, v85, v86, v87, v88, v89, v90, v91, v92, v93, v94, v95, v96, v97, v98, v99, v100, v101, v102, v103, v104, v105, v106, v107, v108, v109, v110, v111, v112, v113, v114, v115, v116, v117, v118, v119, v120, v121, v122, v123, v124, v125, v126, v127, v128, v129, v130, v131, v132, v133, v134, v135, v136, v137, v138, v139, v140, v141, v142, v143, v144, v145, v146, v147, v148, v149, v150, v151, v152, v153, v154, v155, v156, v157, v158, v159, v160, v161, v162, v163, v164, v165, v166, v167, v168, v169, v170, v171, v172, v173, v174, v175, v176, v177, v178, v179, v180, v181, v182, v183, v184, v185, v186, v187, v188, v189, v190, v191, v192, v193, v194, v195, v196, v197, v198, v199, v200, v201, v202, v203, v204, v205, v206, v207, v208, v209, v210, v211, v212, v213, v214, v215, v216, v217, v218, v219, v220, v221, v222, v223, v224, v225, v226, v227, v228, v229, v230, v231, v232, v233, v234, v235, v236, v237, v238, v239, v240, v241, v242, v243, v244, v245, v246, v247, v248, v249, v250, v251, v252, v253, v254, v255, v256, v257, v258, v259, v260, v261, v262, v263, v264, v265, v266, v267, v268, v269, v270, v271, v272, v273, v274, v275, v276, v277, v278, v279, v280, v281, v282, v283, v284, v285, v286, v287, v288], []⟩ wr := by
  have c4 := (S.touch.cell H.bcl (by have := H.cfg; simp; omega)).trans H.c4
  have c5 := (S.touch.cell H.bcl (by have := H.cfg; simp; omega)).trans H.c5
  have hit := hit_of P1 (by omega) k0 k1 par
  have hpos := hit.s0
  have hks := hit.sk
  have bnd := hit.far.bound (by omega)
  obtain ⟨sx, hsx⟩ : ∃ sx : Nat, fur F off k d = sx := ⟨_, (Int.toNat_of_nonneg hpos).symm⟩
  obtain ⟨sy, hsy⟩ : ∃ sy : Nat, (sx : Int) - k = sy := ⟨((sx : Int) - k).toNat, by omega⟩
  have hv : -(d : Int) < k → 0 ≤ tb F off (k - 1) ∧ tb F off (k - 1) ≤ 1000000 := by
    intro h
    have f := P1.past (k - 1) (by omega) (by omega) (by omega)
    have fb := f.bound (by omega)
    have := f.x0
    have := H.hla
    have := H.la1
    omega
  have cfu := fun wz (hz : wz.heap[bf]? = some (ints F)) => fur_any F bf cf off k d wz hz (by omega) k0 k1 (by omega) (by omega) (by have := H.lf1; omega) hv
  rw [hsx] at cfu hN hR hit bnd
  have hend : runEnd A B sx k = ((sx + lcp (A.drop sx) (B.drop sy) : Nat) : Int) := by
    unfold runEnd
    rw [Int.toNat_natCast, hsy, Int.toNat_natCast]
    omega
  obtain ⟨x, hx⟩ : ∃ x : Nat, x = sx + lcp (A.drop sx) (B.drop sy) := ⟨_, rfl⟩
  obtain ⟨y, hy⟩ : ∃ y : Nat, y = sy + lcp (A.drop sx) (B.drop sy) := ⟨_, rfl⟩
  have hX : runEnd A B sx k = x := by rw [hend, ← hx]
  have hY : (x : Int) - k = y := by omega
  rw [hX] at hN hR hit bnd
  rw [hsy, hY] at hR
  have HC := hide cfu
  have HN := hide hN
  have HR := hide hR
  have HH := hide H
  have HS := hide S
  have HP1 := hide P1
  have HP2 := hide P2
  have Hod := hide hod
  have Hit := hide hit
  have Hend := hide hend
  have Hx := hide hx
  have Hy := hide hy
  have Hsx := hide hsx
  have Hsy := hide hsy
  have l1 := H.la1
  have l2 := H.lb1
  have l3 := H.lf1
  have l4 := H.lg1
  have l5 := H.hla
  have l6 := H.hlb
  have q1 : sx ≤ 20000 := by have := hit.sx; omega
  have q2 : sy ≤ 20000 := by omega
  have q3 : x ≤ 20000 := by omega
  have q4 : y ≤ 20000 := by omega
  have ne1 : bc ≠ bf := H.cfg.1
  have ne2 : bf ≠ bc := H.cfg.1.symm
  have ne3 : bg ≠ bf := H.fg.symm
  have ne4 : bf ≠ bg := H.fg
  clear hN hR H S P1 P2 hod hit hend hx hy hsx cfu hv hpos hks bnd hX hY
  conv => arg 2; whnf
  go_upto_block 4 with (go_at_call 13; have hc := unhide HC _ (unhide HS).hf; rw [lF] at hc; refine hc.mono ?_; rintro e w1 ⟨rfl, n1, rfl⟩)
  refine while1 sx sy (unhide HH) ((unhide HS).touch.drewN n1) q1 q2 ?_
  rw [← unhide Hx, ← unhide Hy]
  intro u91 u92 u93 u94 u95 u96 u97 u98 u99 u100 u101 u102 u103 u104 u105 u106 u107 u108 u109 u110 u111 u112 u113 u114 u115 u116 u117 u118 u119 u120 u121 u122 u123 wx hwx
  obtain ⟨n2, rfl⟩ := hwx
  dsimp only
  have g0 := ints_cell (unhide HS).hf ((off : Int) + k).toNat (by omega)
  have g1 := ints_free (unhide HS).hf ((off : Int) + k).toNat
  have i0 : 0 ≤ (off : Int) + k := by omega
  have i1 : (off : Int) + k < LF := by omega
  have HSt := hide ((unhide HS).stepF ne4 (n1 + n2) ((off : Int) + k).toNat x)
  cases od with
  | false =>
    have hK := unhide HN (by simp [chkF])
    go_wp2_with fail
    exact unhide HSt
  | true =>
    by_cases ca1 : (A.length : Int) - B.length - ((d : Int) - 1) ≤ k
    · by_cases ca2 : k ≤ (A.length : Int) - B.length + ((d : Int) - 1)
      · have hodd : ((A.length : Int) - B.length) % 2 ≠ 0 := by have := unhide Hod; simpa using this
        have fg := (unhide HP2).past ((A.length : Int) - B.length - k) (by omega) (by omega) (by omega)
        have fb := fg.bound (by omega)
        rw [List.length_reverse] at fb
        have fb0 := fg.x0
        obtain ⟨g, hg⟩ : ∃ g, g = tb G off ((A.length : Int) - B.length - k) := ⟨_, rfl⟩
        have gG := ints_cell (unhide HS).hg ((off : Int) + ((A.length : Int) - B.length) - k).toNat (by omega)
        have e : G.getD ((off : Int) + ((A.length : Int) - B.length) - k).toNat 0 = g := by
          rw [hg]
          unfold tb
          rw [show (off : Int) + ((A.length : Int) - B.length - k) = (off : Int) + ((A.length : Int) - B.length) - k from by omega]
        rw [e] at gG
        rw [← hg] at fb fb0
        have j0 : 0 ≤ (off : Int) + ((A.length : Int) - B.length) - k := by omega
        have j1 : (off : Int) + ((A.length : Int) - B.length) - k < LG := by omega
        have Hgg := hide hg
        clear fg e hg hodd
        by_cases ca3 : (A.length : Int) ≤ x + g
        · have hK := unhide HR (by have := unhide Hgg; simp [chkF, ca1, ca2, ← this, ca3])
          go_wp2_with fail
          exact unhide HSt
        · have hK := unhide HN (by have := unhide Hgg; simp [chkF, ← this, ca3])
          go_wp2_with fail
          exact unhide HSt
      · have hK := unhide HN (by simp [chkF, ca2])
        go_wp2_with fail
        exact unhide HSt
    · have hK := unhide HN (by simp [chkF, ca1])
      go_wp2_with fail
      exact unhide HSt
end Go.Proofs.Qxb6617690a
