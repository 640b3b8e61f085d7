import Derived.Test.Qxb6617690aR1
namespace Go.Proofs.Qxb6617690a
open Go.RowKit Plain

set_option maxRecDepth 100000 in
set_option maxHeartbeats 4000000 in
theorem round2 {K : Act → World → Prop} {Q : Exit → Act → World → Prop} {v1 v3 v5 v6 v7 v8 v9 v10 v11 v12 v13 v20 v21 v22 v23 v24 v26 v27 v28 v29 v30 v31 v32 v33 v34 v35 v36 v37 v38 v39 v40 v41 v42 v43 v44 v45 v46 v47 v48 v49 v50 v51 v52 v53 v54 v55 v56 v57 v58 v59 v60 v61 v62 v63 v64 v65 v66 v67 v68 v69 v70 v71 v72 v73 v74 v75 v76 v77 v78 v79 v80 v81 v82 v83 v84 v85 v86 v87 v88 v89 v90 v91 v92 v93 v94 v95 v96 v97 v98 v99 v100 v101 v102 v103 v104 v105 v106 v107 v108 v109 v110 v111 v112 v113 v114 v115 v116 v117 v118 v119 v120 v121 v122 v123 v124 v125 v126 v127 v128 v129 v130 v131 v132 v133 v134 v135 v136 v137 v138 v139 v140 v141 v142 v143 v144 v145 v146 v147 v148 v149 v150 v151 v152 v153 v154 v155 v156 v157 v158 v159 v160 v161 v162 v163 v164 v165 v166 v167 v168 v169 v170 v171 v172 v173 v174 v175 v176 v177 v178 v179 v180 v181 v182 v183 v184 v185 v186 v187 v188 v189 v190 v191 v192 v193 v194 v195 v196 v197 v198 v199 v200 v201 v202 v203 v204 v205 v206 v207 v208 v209 v210 v211 v212 v213 v214 v215 v216 v217 v218 v219 v220 v221 v222 v223 v224 v225 v226 v227 v228 v229 v230 v231 v232 v233 v234 v235 v236 v237 v238 v239 v240 v241 v242 v243 v244 v245 v246 v247 v248 v249 v250 v251 v252 v253 v254 v255 v256 v257 v258 v259 v260 v261 v262 v263 v264 v265 v266 v267 v268 v269 v270 v271 v272 v273 v274 v275 v276 v277 v278 v279 v280 v281 v282 v283 v284 v285 v286 v287 v288 : Value}
    {w0 wr : World} {A B F G : List Int} {bc bf bg ba pa bb pb aLo bLo la lb ca cb LF LG cf cg : Nat} {oa ob : Option Addr} {od : Bool} {off d half aHi bHi : Nat} {k : Int} (haHi : aHi = aLo + A.length) (hbHi : bHi = bLo + B.length)
    (H : Handed w0 A B bc bf bg ba pa bb pb aLo bLo la lb ca cb LF LG cf cg oa ob) (S : St w0 bf bg F G wr) (lF : F.length = LF) (lG : G.length = LG)
    (P1 : Prev (mtL A.reverse B.reverse) off d G) (P2 : Prev (mtL A B) off ((d : Int) + 1) F) (hod : decide (((A.length : Int) - B.length) % 2 ≠ 0) = od)
    (hd : d ≤ half) (hh : half ≤ 5000) (ho : half ≤ off) (hF : off + half + 1 < LF) (hG : off + half + 1 < LG) (k0 : -(d : Int) ≤ k) (k1 : k ≤ d) (par : (k + d) % 2 = 0)
    (hN : chkB od ((A.length : Int) - B.length) A.length off d F k (runEnd A.reverse B.reverse (fur G off k d) k) = false → ∀ (u26 u27 u28 u29 u186 u187 u188 u189 u190 u191 u192 u193 u194 u195 u196 u197 u198 u199 u200 u201 u202 u203 u204 u205 u206 u207 u208 u209 u210 u211 u212 u213 u214 u215 u216 u217 u218 u219 u220 u221 u222 u223 u224 u225 u226 u227 u228 u229 u230 u231 u232 u233 u234 u235 u236 u237 u238 u239 u240 u241 u242 u243 u244 u245 u246 u247 u248 u249 u250 u251 u252 u253 u254 u255 u256 u257 u258 u259 u260 u261 u262 u263 u264 u265 u266 u267 u268 u269 u270 u271 u272 u273 u274 u275 : Value) (wx : World), St w0 bf bg F (G.set ((off : Int) + k).toNat (runEnd A.reverse B.reverse (fur G off k d) k)) wx → K ⟨#[.pointer (some ⟨bc, 0, none⟩), v1, .int .i64 aHi, v3, .int .i64 bHi, v5, v6, v7, v8, v9, v10, v11, v12, v13, .int .i64 A.length, .int .i64 B.length, .int .i64 ((A.length : Int) - B.length), .bool od, .int .i64 off, .int .i64 d, v20, v21, v22, v23, v24, .int .i64 k, u26, u27, u28, u29, v30, v31, v32, v33, v34, v35, v36, v37, v38, v39, v40, v41, v42, v43, v44, v45, v46, v47, v48, v49, v50, v51, v52, v53, v54, v55, v56, v57, v58, v59, v60, v61, v62, v63, v64, v65, v66, v67, v68, v69, v70, v71, v72, v73, v74, v75, v76, v77, v78, v79, v80, v81, v82, v83, v84, v85, v86, v87, v88, v89, v90, v91, v92, v93, v94, v95, v96, v97, v98, v99, v100, v101, v102, v103, v104, v105, v106, v107, v108, v109, v110, v111, v112, v113, v114, v115, v116, v117, v118, v119, v120, v121, v122, v123, v124, v125, v126, v127, v128, v129, v130, v131, v132, v133, v134, v135, v136, v137, v138, v139, v140, v141, v142, v143, v144, v145, v146, v147, v148, v149, v150, v151, v152, v153, v154, v155, v156, v157, v158, v159, v160, v161, v162, v163, v164, v165, v166, v167, v168, v169, v170, v171, v172, v173, v174, v175, v176, v177, v178, v179, v180, v181, v182, v183, v184, v185, u186, u187, u188, u189, u190, u191, u192, u193, u194, u195, u196, u197, u198, u199, u200, u201, u202, u203, u204, u205, u206, u207, u208, u209, u210, u211, u212, u213, u214, u215, u216, u217, u218, u219, u220, u221, u222, u223, u224, u225, u226, u227, u228, u229, u230, u231, u232, u233, u234, u235, u236, u237, u238, u239, u240, u241, u242, u243, u244, u245, u246, u247, u248, u249, u250, u251, u252, u253, u254, u255, u256, u257, u258, u259, u260, u261, u262, u263, u264, u265, u266, u267, u268, u269, u270, u271, u272, u273, u274, u275, v276, v277, v278, v279, v280, v281, v282, v283, v284, v285, v286, v287, v288], []⟩ wx)
    (hR : chkB od ((A.length : Int) - B.length) A.length off d F k (runEnd A.reverse B.reverse (fur G off k d) k) = true → ∀ (u26 u27 u28 u29 u186 u187 u188 u189 u190 u191 u192 u193 u194 u195 u196 u197 u198 u199 u200 u201 u202 u203 u204 u205 u206 u207 u208 u209 u210 u211 u212 u213 u214 u215 u216 u217 u218 u219 u220 u221 u222 u223 u224 u225 u226 u227 u228 u229 u230 u231 u232 u233 u234 u235 u236 u237 u238 u239 u240 u241 u242 u243 u244 u245 u246 u247 u248 u249 u250 u251 u252 u253 u254 u255 u256 u257 u258 u259 u260 u261 u262 u263 u264 u265 u266 u267 u268 u269 u270 u271 u272 u273 u274 u275 u276 u277 u278 u279 u280 u281 u282 u283 u284 u285 u286 u287 : Value) (wx : World), St w0 bf bg F (G.set ((off : Int) + k).toNat (runEnd A.reverse B.reverse (fur G off k d) k)) wx → Q .ret ⟨#[.pointer (some ⟨bc, 0, none⟩), v1, .int .i64 aHi, v3, .int .i64 bHi, v5, v6, v7, v8, v9, .int .i64 ((aHi : Int) - runEnd A.reverse B.reverse (fur G off k d) k), .int .i64 ((bHi : Int) - (runEnd A.reverse B.reverse (fur G off k d) k - k)), .int .i64 ((aHi : Int) - fur G off k d), .int .i64 ((bHi : Int) - (fur G off k d - k)), .int .i64 A.length, .int .i64 B.length, .int .i64 ((A.length : Int) - B.length), .bool od, .int .i64 off, .int .i64 d, v20, v21, v22, v23, v24, .int .i64 k, u26, u27, u28, u29, v30, v31, v32, v33, v34, v35, v36, v37, v38, v39, v40, v41, v42, v43, v44, v45, v46, v47, v48, v49, v50, v51, v52, v53, v54, v55, v56, v57, v58, v59, v60, v61, v62, v63, v64, v65, v66, v67, v68, v69, v70, v71, v72, v73, v74, v75, v76, v77, v78, v79, v80, v81, v82, v83, v84, v85, v86, v87, v88, v89, v90, v91, v92, v93, v94, v95, v96, v97, v98, v99, v100, v101, v102, v103, v104, v105, v106, v107, v108, v109, v110, v111, v112, v113, v114, v115, v116, v117, v118, v119, v120, v121, v122, v123, v124, v125, v126, v127, v128, v129, v130, v131, v132, v133, v134, v135, v136, v137, v138, v139, v140, v141, v142, v143, v144, v145, v146, v147, v148, v149, v150, v151, v152, v153, v154, v155, v156, v157, v158, v159, v160, v161, v162, v163, v164, v165, v166, v167, v168, v169, v170, v171, v172, v173, v174, v175, v176, v177, v178, v179, v180, v181, v182, v183, v184, v185, u186, u187, u188, u189, u190, u191, u192, u193, u194, u195, u196, u197, u198, u199, u200, u201, u202, u203, u204, u205, u206, u207, u208, u209, u210, u211, u212, u213, u214, u215, u216, u217, u218, u219, u220, u221, u222, u223, u224, u225, u226, u227, u228, u229, u230, u231, u232, u233, u234, u235, u236, u237, u238, u239, u240, u241, u242, u243, u244, u245, u246, u247, u248, u249, u250, u251, u252, u253, u254, u255, u256, u257, u258, u259, u260, u261, u262, u263, u264, u265, u266, u267, u268, u269, u270, u271, u272, u273, u274, u275, u276, u277, u278, u279, u280, u281, u282, u283, u284, u285, u286, u287, v288], []⟩ wx) :
    Code.wp Try.prog (sub [1, 1, 1, 1, 1, 1, 0, 1, 2, 3, 1, 0, 2, 1, 1, 2, 3, 1, 0] (Try.f11.body.getD .skip)) (Exit.then K Q) ⟨#[.pointer (some ⟨bc, 0, none⟩), v1, .int .i64 aHi, v3, .int .i64 bHi, v5, v6, v7, v8, v9, v10, v11, v12, v13, .int .i64 A.length, .int .i64 B.length, .int .i64 ((A.length : Int) - B.length), .bool od, .int .i64 off, .int .i64 d, v20, v21, v22, v23, v24, .int .i64 k, v26, v27, v28, v29, v30, v31, v32, v33, v34, v35, v36, v37, v38, v39, v40, v41, v42, v43, v44, v45, v46, v47, v48, v49, v50, v51, v52, v53, v54, v55, v56, v57, v58, v59, v60, v61, v62, v63, v64, v65, v66, v67, v68, v69, v70, v71, v72, v73, v74, v75, v76, v77, v78, v79, v80, v81, v82, v83, v84, v85, v86, v87, v88, v89, v90, v91, v92, v93, v94, v95, v96, v97, v98, v99, v100, v101, v102, v103, v104, v105, v106, v107, v108, v109, v110, v111, v112, v113, v114, v115, v116, v117, v118, v119, v120, v121, v122, v123, v124, v125, v126, v127, v128, v129, v130, v131, v132, v133, v134, v135, v136, v137, v138, v139, v140, v141, v142, v143, v144, v145, v146, v147, v148, v149, v150, v151, v152, v153, v154, v155, v156, v157, v158, v159, v160, v161, v162, v163, v164, v165, v166, v167, v168, v169, v170, v171, v172, v173, v174, v175, v176, v177, v178, v179, v180, v181, v182, v183, v184, v185, v186, v187, v188, v189, v190, v191, v192, v193, v194, v195, v196, v197, v198, v199, v200, v201, v202, v203, v204, v205, v206, v207, v208, v209, v210, v211, v212, v213, v214, v215, v216, v217, v218, v219, v220, v221, v222, v223, v224, v225, v226, v227, v228, v229, v230, v231, v232, v233, v234, v235, v236, v237, v238, v239, v240, v241, v242, v243, v244, v245, v246, v247, v248, v249, v250, v251, v252, v253, v254, v255, v256, v257, v258, v259, v260, v261, v262, v263, v264, v265, v266, v267, v268, v269, v270, v271, v272, v273, v274, v275, v276, v277, v278, v279, v280, v281, v282, v283, v284, v285, v286, v287, v288], []⟩ wr := by
  have c4 := (S.touch.cell H.bcl (by have := H.cfg; simp; omega)).trans H.c4
  have c5 := (S.touch.cell H.bcl (by have := H.cfg; simp; omega)).trans H.c5
  have hit := hit_of P1 (by omega) k0 k1 par
  have hpos := hit.s0
  have hks := hit.sk
  have bnd := hit.far.bound (by omega)
  rw [List.length_reverse] at bnd
  obtain ⟨sx, hsx⟩ : ∃ sx : Nat, fur G off k d = sx := ⟨_, (Int.toNat_of_nonneg hpos).symm⟩
  obtain ⟨sy, hsy⟩ : ∃ sy : Nat, (sx : Int) - k = sy := ⟨((sx : Int) - k).toNat, by omega⟩
  have hv : -(d : Int) < k → 0 ≤ tb G off (k - 1) ∧ tb G off (k - 1) ≤ 1000000 := by
    intro h
    have f := P1.past (k - 1) (by omega) (by omega) (by omega)
    have fb := f.bound (by omega)
    rw [List.length_reverse] at fb
    have := f.x0
    have := H.hla
    have := H.la1
    omega
  have cfu := fun wz (hz : wz.heap[bg]? = some (ints G)) => fur_any G bg cg off k d wz hz (by omega) k0 k1 (by omega) (by omega) (by have := H.lg1; omega) hv
  rw [hsx] at cfu hN hR hit bnd
  have hend : runEnd A.reverse B.reverse sx k = ((sx + lcp (A.reverse.drop sx) (B.reverse.drop sy) : Nat) : Int) := by
    unfold runEnd
    rw [Int.toNat_natCast, hsy, Int.toNat_natCast]
    omega
  obtain ⟨x, hx⟩ : ∃ x : Nat, x = sx + lcp (A.reverse.drop sx) (B.reverse.drop sy) := ⟨_, rfl⟩
  obtain ⟨y, hy⟩ : ∃ y : Nat, y = sy + lcp (A.reverse.drop sx) (B.reverse.drop sy) := ⟨_, rfl⟩
  have hX : runEnd A.reverse B.reverse sx k = x := by rw [hend, ← hx]
  have hY : (x : Int) - k = y := by omega
  rw [hX] at hN hR hit bnd
  rw [hsy, hY] at hR
  have HC := hide cfu
  have HN := hide hN
  have HR := hide hR
  have HH := hide H
  have Ha := hide haHi
  have Hb := hide hbHi
  have p1 : aHi ≤ 4096 := by have := H.hla; have := H.la1; omega
  have p2 : bHi ≤ 4096 := by have := H.hlb; have := H.lb1; omega
  have HS := hide S
  have HP1 := hide P1
  have HP2 := hide P2
  have Hod := hide hod
  have Hit := hide hit
  have Hend := hide hend
  have Hx := hide hx
  have Hy := hide hy
  have Hsx := hide hsx
  have Hsy := hide hsy
  have l1 := H.la1
  have l2 := H.lb1
  have l3 := H.lf1
  have l4 := H.lg1
  have l5 := H.hla
  have l6 := H.hlb
  have q1 : sx ≤ 20000 := by have := hit.sx; omega
  have q2 : sy ≤ 20000 := by omega
  have q3 : x ≤ 20000 := by omega
  have q4 : y ≤ 20000 := by omega
  have ne1 : bc ≠ bg := H.cfg.2
  have ne2 : bg ≠ bc := H.cfg.2.symm
  have ne3 : bg ≠ bf := H.fg.symm
  have ne4 : bf ≠ bg := H.fg
  clear haHi hbHi hN hR H S P1 P2 hod hit hend hx hy hsx cfu hv hpos hks bnd hX hY
  conv => arg 2; whnf
  go_upto_block 8 with (go_at_call 13; have hc := unhide HC _ (unhide HS).hg; rw [lG] at hc; refine hc.mono ?_; rintro e w1 ⟨rfl, n1, rfl⟩)
  refine while2 sx sy aHi bHi (unhide Ha) (unhide Hb) (unhide HH) ((unhide HS).touch.drewN n1) q1 q2 ?_
  rw [← unhide Hx, ← unhide Hy]
  intro u199 u200 u201 u202 u203 u204 u205 u206 u207 u208 u209 u210 u211 u212 u213 u214 u215 u216 u217 u218 u219 u220 u221 u222 u223 u224 u225 u226 u227 u228 u229 u230 u231 u232 u233 wx hwx
  obtain ⟨n2, rfl⟩ := hwx
  dsimp only
  have g0 := ints_cell (unhide HS).hg ((off : Int) + k).toNat (by omega)
  have g1 := ints_free (unhide HS).hg ((off : Int) + k).toNat
  have i0 : 0 ≤ (off : Int) + k := by omega
  have i1 : (off : Int) + k < LG := by omega
  have HSt := hide ((unhide HS).stepG ne4 (n1 + n2) ((off : Int) + k).toNat x)
  cases od with
  | true =>
    have hK := unhide HN (by simp [chkB])
    go_wp2_with fail
    exact unhide HSt
  | false =>
    by_cases ca1 : (A.length : Int) - B.length - (d : Int) ≤ k
    · by_cases ca2 : k ≤ (A.length : Int) - B.length + (d : Int)
      · have hodd : ((A.length : Int) - B.length) % 2 = 0 := by have := unhide Hod; simpa using this
        have fg := (unhide HP2).past ((A.length : Int) - B.length - k) (by omega) (by omega) (by omega)
        have fb := fg.bound (by omega)
        have fb0 := fg.x0
        obtain ⟨g, hg⟩ : ∃ g, g = tb F off ((A.length : Int) - B.length - k) := ⟨_, rfl⟩
        have gG := ints_cell (unhide HS).hf ((off : Int) + ((A.length : Int) - B.length) - k).toNat (by omega)
        have e : F.getD ((off : Int) + ((A.length : Int) - B.length) - k).toNat 0 = g := by
          rw [hg]
          unfold tb
          rw [show (off : Int) + ((A.length : Int) - B.length - k) = (off : Int) + ((A.length : Int) - B.length) - k from by omega]
        rw [e] at gG
        rw [← hg] at fb fb0
        have j0 : 0 ≤ (off : Int) + ((A.length : Int) - B.length) - k := by omega
        have j1 : (off : Int) + ((A.length : Int) - B.length) - k < LF := by omega
        have Hgg := hide hg
        clear fg e hg hodd
        by_cases ca3 : (A.length : Int) ≤ x + g
        · have hK := unhide HR (by have := unhide Hgg; simp [chkB, ca1, ca2, ← this, ca3])
          go_wp2_with fail
          exact unhide HSt
        · have hK := unhide HN (by have := unhide Hgg; simp [chkB, ← this, ca3])
          go_wp2_with fail
          exact unhide HSt
      · have hK := unhide HN (by simp [chkB, ca2])
        go_wp2_with fail
        exact unhide HSt
    · have hK := unhide HN (by simp [chkB, ca1])
      go_wp2_with fail
      exact unhide HSt
end Go.Proofs.Qxb6617690a
