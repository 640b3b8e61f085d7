import Derived.Test.Qxb6617690aSt
import Derived.Deep.DeepCutAuto
import Derived.Deep.Light
import Derived.WalkLawsBesides
namespace Go.Proofs.Qxb6617690a
open Go.RowKit Plain

theorem drewN_two (w : World) (a b : Nat) : (w.drewN a).drewN b = w.drewN (a + b) := by
  simp [World.drewN, Nat.add_assoc]

/-- The run goes on. -/
theorem more_of {A B : List Int} {sx sy x y t g : Nat} (hg : g + t = lcp (A.drop sx) (B.drop sy)) (hx : x = sx + t) (hy : y = sy + t) (cx : x < A.length) (cy : y < B.length) (h : A.getD x 0 = B.getD y 0) : g - 1 < g := by
  subst hx hy
  by_cases hz : g = 0
  · exfalso
    have e : t = lcp (A.drop sx) (B.drop sy) := by omega
    have := lcp_out (A.drop sx) (B.drop sy) (by rw [List.length_drop]; omega) (by rw [List.length_drop]; omega)
    rw [getD_drop, getD_drop, ← e] at this
    exact this h
  · omega

/-- The run ends. -/
theorem stop_of {A B : List Int} {sx sy x y t g : Nat} (hg : g + t = lcp (A.drop sx) (B.drop sy)) (hx : x = sx + t) (hy : y = sy + t) (h : x < A.length → y < B.length → A.getD x 0 ≠ B.getD y 0) :
    x = sx + lcp (A.drop sx) (B.drop sy) ∧ y = sy + lcp (A.drop sx) (B.drop sy) := by
  subst hx hy
  by_cases hz : g = 0
  · omega
  · exfalso
    have := lcp_in (A.drop sx) (B.drop sy) t (by omega)
    rw [getD_drop, getD_drop, List.length_drop, List.length_drop] at this
    exact h (by omega) (by omega) this.2.2

set_option maxRecDepth 100000 in
set_option maxHeartbeats 2000000 in
theorem while1 {K : Act → World → Prop} {Q : Exit → Act → World → Prop} {v2 v4 v5 v6 v7 v8 v9 v10 v11 v12 v13 v16 v17 v18 v19 v20 v23 v24 v25 v26 v27 v28 v29 v30 v31 v32 v33 v34 v35 v36 v37 v38 v39 v40 v41 v42 v43 v44 v45 v46 v47 v48 v49 v50 v51 v52 v53 v54 v55 v56 v57 v58 v59 v60 v61 v62 v63 v64 v65 v66 v67 v68 v69 v70 v71 v72 v73 v74 v75 v76 v77 v78 v79 v80 v81 v82 v83 v84 v85 v86 v87 v88 v89 v90 v91 v92 v93 v94 v95 v96 v97 v98 v99 v100 v101 v102 v103 v104 v105 v106 v107 v108 v109 v110 v111 v112 v113 v114 v115 v116 v117 v118 v119 v120 v121 v122 v123 v124 v125 v126 v127 v128 v129 v130 v131 v132 v133 v134 v135 v136 v137 v138 v139 v140 v141 v142 v143 v144 v145 v146 v147 v148 v149 v150 v151 v152 v153 v154 v155 v156 v157 v158 v159 v160 v161 v162 v163 v164 v165 v166 v167 v168 v169 v170 v171 v172 v173 v174 v175 v176 v177 v178 v179 v180 v181 v182 v183 v184 v185 v186 v187 v188 v189 v190 v191 v192 v193 v194 v195 v196 v197 v198 v199 v200 v201 v202 v203 v204 v205 v206 v207 v208 v209 v210 v211 v212 v213 v214 v215 v216 v217 v218 v219 v220 v221 v222 v223 v224 v225 v226 v227 v228 v229 v230 v231 v232 v233 v234 v235 v236 v237 v238 v239 v240 v241 v242 v243 v244 v245 v246 v247 v248 v249 v250 v251 v252 v253 v254 v255 v256 v257 v258 v259 v260 v261 v262 v263 v264 v265 v266 v267 v268 v269 v270 v271 v272 v273 v274 v275 v276 v277 v278 v279 v280 v281 v282 v283 v284 v285 v286 v287 v288 : Value}
    {w0 wr : World} {A B : List Int} {bc bf bg ba pa bb pb aLo bLo la lb ca cb LF LG cf cg : Nat} {oa ob : Option Addr} (sx sy : Nat)
    (H : Handed w0 A B bc bf bg ba pa bb pb aLo bLo la lb ca cb LF LG cf cg oa ob) (T : Touch (fun k => k = bf ∨ k = bg) w0 wr) (h1 : sx ≤ 20000) (h2 : sy ≤ 20000)
    (hK : ∀ (u91 u92 u93 u94 u95 u96 u97 u98 u99 u100 u101 u102 u103 u104 u105 u106 u107 u108 u109 u110 u111 u112 u113 u114 u115 u116 u117 u118 u119 u120 u121 u122 u123 : Value) (wx : World), (∃ nq, wx = wr.drewN nq) → K ⟨#[.pointer (some ⟨bc, 0, none⟩), .int .i64 aLo, v2, .int .i64 bLo, v4, v5, v6, v7, v8, v9, v10, v11, v12, v13, .int .i64 A.length, .int .i64 B.length, v16, v17, v18, v19, v20, .int .i64 ((sx + lcp (A.drop sx) (B.drop sy) : Nat) : Int), .int .i64 ((sy + lcp (A.drop sx) (B.drop sy) : Nat) : Int), v23, v24, v25, v26, v27, v28, v29, v30, v31, v32, v33, v34, v35, v36, v37, v38, v39, v40, v41, v42, v43, v44, v45, v46, v47, v48, v49, v50, v51, v52, v53, v54, v55, v56, v57, v58, v59, v60, v61, v62, v63, v64, v65, v66, v67, v68, v69, v70, v71, v72, v73, v74, v75, v76, v77, v78, v79, v80, v81, v82, v83, v84, v85, v86, v87, v88, v89, v90, u91, u92, u93, u94, u95, u96, u97, u98, u99, u100, u101, u102, u103, u104, u105, u106, u107, u108, u109, u110, u111, u112, u113, u114, u115, u116, u117, u118, u119, u120, u121, u122, u123, v124, v125, v126, v127, v128, v129, v130, v131, v132, v133, v134, v135, v136, v137, v138, v139, v140, v141, v142, v143, v144, v145, v146, v147, v148, v149, v150, v151, v152, v153, v154, v155, v156, v157, v158, v159, v160, v161, v162, v163, v164, v165, v166, v167, v168, v169, v170, v171, v172, v173, v174, v175, v176, v177, v178, v179, v180, v181, v182, v183, v184, v185, v186, v187, v188, v189, v190, v191, v192, v193, v194, v195, v196, v197, v198, v199, v200, v201, v202, v203, v204, v205, v206, v207, v208, v209, v210, v211, v212, v213, v214, v215, v216, v217, v218, v219, v220, v221, v222, v223, v224, v225, v226, v227, v228, v229, v230, v231, v232, v233, v234, v235, v236, v237, v238, v239, v240, v241, v242, v243, v244, v245, v246, v247, v248, v249, v250, v251, v252, v253, v254, v255, v256, v257, v258, v259, v260, v261, v262, v263, v264, v265, v266, v267, v268, v269, v270, v271, v272, v273, v274, v275, v276, v277, v278, v279, v280, v281, v282, v283, v284, v285, v286, v287, v288], []⟩ wx) :
    Code.wp Try.prog (sub [1, 1, 1, 1, 1, 1, 0, 1, 2, 3, 1, 0, 2, 0, 1, 2, 3, 1, 0, 2, 1, 1, 1, 0] (Try.f11.body.getD .skip)) (Exit.then K Q) ⟨#[.pointer (some ⟨bc, 0, none⟩), .int .i64 aLo, v2, .int .i64 bLo, v4, v5, v6, v7, v8, v9, v10, v11, v12, v13, .int .i64 A.length, .int .i64 B.length, v16, v17, v18, v19, v20, .int .i64 sx, .int .i64 sy, v23, v24, v25, v26, v27, v28, v29, v30, v31, v32, v33, v34, v35, v36, v37, v38, v39, v40, v41, v42, v43, v44, v45, v46, v47, v48, v49, v50, v51, v52, v53, v54, v55, v56, v57, v58, v59, v60, v61, v62, v63, v64, v65, v66, v67, v68, v69, v70, v71, v72, v73, v74, v75, v76, v77, v78, v79, v80, v81, v82, v83, v84, v85, v86, v87, v88, v89, v90, v91, v92, v93, v94, v95, v96, v97, v98, v99, v100, v101, v102, v103, v104, v105, v106, v107, v108, v109, v110, v111, v112, v113, v114, v115, v116, v117, v118, v119, v120, v121, v122, v123, v124, v125, v126, v127, v128, v129, v130, v131, v132, v133, v134, v135, v136, v137, v138, v139, v140, v141, v142, v143, v144, v145, v146, v147, v148, v149, v150, v151, v152, v153, v154, v155, v156, v157, v158, v159, v160, v161, v162, v163, v164, v165, v166, v167, v168, v169, v170, v171, v172, v173, v174, v175, v176, v177, v178, v179, v180, v181, v182, v183, v184, v185, v186, v187, v188, v189, v190, v191, v192, v193, v194, v195, v196, v197, v198, v199, v200, v201, v202, v203, v204, v205, v206, v207, v208, v209, v210, v211, v212, v213, v214, v215, v216, v217, v218, v219, v220, v221, v222, v223, v224, v225, v226, v227, v228, v229, v230, v231, v232, v233, v234, v235, v236, v237, v238, v239, v240, v241, v242, v243, v244, v245, v246, v247, v248, v249, v250, v251, v252, v253, v254, v255, v256, v257, v258, v259, v260, v261, v262, v263, v264, v265, v266, v267, v268, v269, v270, v271, v272, v273, v274, v275, v276, v277, v278, v279, v280, v281, v282, v283, v284, v285, v286, v287, v288], []⟩ wr := by
  have c0 := (T.cell H.bcl (by have := H.cfg; simp; omega)).trans H.c0
  have c1 := (T.cell H.bcl (by have := H.cfg; simp; omega)).trans H.c1
  have HH := hide H
  have HT := hide T
  have l1 := H.la1
  have l2 := H.lb1
  have l5 := H.hla
  have l6 := H.hlb
  clear H T
  conv => arg 2; whnf
  go_wp2
  go_loopg [21, 22] (lcp (A.drop sx) (B.drop sy)) (fun g s21 s22 wx => ∃ x y t nq : Nat, s21 = .int .i64 x ∧ s22 = .int .i64 y ∧ x = sx + t ∧ y = sy + t ∧ g + t = lcp (A.drop sx) (B.drop sy) ∧ wx = wr.drewN nq)
  case atStart => exact ⟨sx, sy, 0, 0, rfl, rfl, rfl, rfl, rfl, rfl⟩
  case round =>
    obtain ⟨x, y, t, n0, rfl, rfl, hx, hy, hg, rfl⟩ := hrel
    have hL := lcp_le (A.drop sx) (B.drop sy)
    rw [List.length_drop, List.length_drop] at hL
    have Hg := hide hg
    have Hx := hide hx
    have Hy := hide hy
    have h3 : x ≤ 30000 := by omega
    have h4 : y ≤ 30000 := by omega
    clear hg hx hy hL
    by_cases cx : x < A.length
    · have oa' := (unhide HH).hoa (by omega)
      obtain ⟨va, hva⟩ : ∃ va, va = A.getD x 0 := ⟨_, rfl⟩
      have ga := ((unhide HT).cell (p := ⟨ba, pa + (aLo + x), none⟩) ((unhide HH).bal (by omega)) (by have := (unhide HH).afg; simp; omega)).trans ((unhide HH).ha x cx)
      rw [← hva] at ga
      have Hva := hide hva
      rw [oa'] at c0
      have ix : (aLo : Int) + (x : Int) < la := by omega
      have cx' : (x : Int) < (A.length : Int) := by omega
      clear hva oa'
      by_cases cy : y < B.length
      · have ob' := (unhide HH).hob (by omega)
        obtain ⟨vb, hvb⟩ : ∃ vb, vb = B.getD y 0 := ⟨_, rfl⟩
        have gb := ((unhide HT).cell (p := ⟨bb, pb + (bLo + y), none⟩) ((unhide HH).bbl (by omega)) (by have := (unhide HH).bfg; simp; omega)).trans ((unhide HH).hb y cy)
        rw [← hvb] at gb
        have Hvb := hide hvb
        rw [ob'] at c1
        have iy : (bLo : Int) + (y : Int) < lb := by omega
        have cy' : (y : Int) < (B.length : Int) := by omega
        clear hvb ob'
        by_cases e : va = vb
        · have be : (va == vb) = true := by simp [e]
          have He := hide e
          clear e hK
          go_wp2_with fail
          go_quiet (fail)
          go_wp2
          go_roundg (gk - 1)
          case measure =>
            go_light
            exact more_of (unhide Hg) (unhide Hx) (unhide Hy) cx cy (by rw [← unhide Hva, ← unhide Hvb, unhide He])
          case rel =>
            go_light
            have := more_of (unhide Hg) (unhide Hx) (unhide Hy) cx cy (by rw [← unhide Hva, ← unhide Hvb, unhide He])
            exact ⟨x + 1, y + 1, t + 1, n0 + nq, by go_num, by go_num, by have := unhide Hx; omega, by have := unhide Hy; omega, by have := unhide Hg; omega, by first | rfl | exact drewN_two _ _ _⟩
        · have be : (va == vb) = false := by simp [e]
          have hfin := stop_of (unhide Hg) (unhide Hx) (unhide Hy) (fun _ _ h => e (by rw [unhide Hva, unhide Hvb, h]))
          have HF := hide hfin
          clear e hfin
          rw [← (unhide HF).1, ← (unhide HF).2] at hK
          go_wp2_with fail
          go_quiet (fail)
          go_wp2
          exact ⟨n0 + nq, by first | rfl | exact drewN_two _ _ _⟩
      · have cy' : decide ((y : Int) < (B.length : Int)) = false := by simp; omega
        have hfin := stop_of (unhide Hg) (unhide Hx) (unhide Hy) (fun _ h => absurd h cy)
        have HF := hide hfin
        clear hfin
        rw [← (unhide HF).1, ← (unhide HF).2] at hK
        go_wp2_with fail
        go_quiet (fail)
        go_wp2
        exact ⟨n0 + nq, by first | rfl | exact drewN_two _ _ _⟩
    · have cx' : decide ((x : Int) < (A.length : Int)) = false := by simp; omega
      have hfin := stop_of (unhide Hg) (unhide Hx) (unhide Hy) (fun h => absurd h cx)
      have HF := hide hfin
      clear hfin
      rw [← (unhide HF).1, ← (unhide HF).2] at hK
      go_wp2_with fail
      go_quiet (fail)
      go_wp2
      exact ⟨n0 + nq, by first | rfl | exact drewN_two _ _ _⟩
end Go.Proofs.Qxb6617690a
