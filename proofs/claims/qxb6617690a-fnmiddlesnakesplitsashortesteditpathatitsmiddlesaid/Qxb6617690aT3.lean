import Derived.Test.Qxb6617690aDist
import Derived.Deep.CutBlock
namespace Go.Proofs.Qxb6617690a
open Go.RowKit Plain

theorem two_of {wd w5 w6 : World} {ZF ZG : List Int}
    (q5 : w5.heap[wd.heap.size]? = some (ints ZF) ∧ Below wd.heap.size wd w5 ∧ wd.heap.size < w5.heap.size)
    (q6 : w6.heap[w5.heap.size]? = some (ints ZG) ∧ Below w5.heap.size w5 w6 ∧ w5.heap.size < w6.heap.size) :
    w6.heap[wd.heap.size]? = some (ints ZF) ∧ w6.heap[w5.heap.size]? = some (ints ZG) ∧ wd.heap.size < w5.heap.size ∧ w5.heap.size < w6.heap.size ∧ Below wd.heap.size wd w6 := by
  obtain ⟨r5, b5, l5⟩ := q5
  obtain ⟨r6, b6, l6⟩ := q6
  exact ⟨by rw [b6.block _ l5]; exact r5, r6, l5, l6, b5.trans (b6.mono (by omega))⟩

set_option maxRecDepth 100000 in
set_option maxHeartbeats 8000000 in
theorem tail3 {K : Act → World → Prop} {v10 v11 v12 v13 v14 v15 v16 v17 v18 v19 v20 v21 v22 v23 v24 v25 v26 v27 v28 v29 v30 v31 v32 v33 v34 v35 v36 v37 v38 v39 v40 v41 v42 v43 v44 v45 v46 v47 v48 v49 v50 v51 v52 v53 v54 v55 v56 v57 v58 v59 v60 v61 v62 v63 v64 v65 v66 v67 v68 v69 v70 v71 v72 v73 v74 v75 v76 v77 v78 v79 v80 v81 v82 v83 v84 v85 v86 v87 v88 v89 v90 v91 v92 v93 v94 v95 v96 v97 v98 v99 v100 v101 v102 v103 v104 v105 v106 v107 v108 v109 v110 v111 v112 v113 v114 v115 v116 v117 v118 v119 v120 v121 v122 v123 v124 v125 v126 v127 v128 v129 v130 v131 v132 v133 v134 v135 v136 v137 v138 v139 v140 v141 v142 v143 v144 v145 v146 v147 v148 v149 v150 v151 v152 v153 v154 v155 v156 v157 v158 v159 v160 v161 v162 v163 v164 v165 v166 v167 v168 v169 v170 v171 v172 v173 v174 v175 v176 v177 v178 v179 v180 v181 v182 v183 v184 v185 v186 v187 v188 v189 v190 v191 v192 v193 v194 v195 v196 v197 v198 v199 v200 v201 v202 v203 v204 v205 v206 v207 v208 v209 v210 v211 v212 v213 v214 v215 v216 v217 v218 v219 v220 v221 v222 v223 v224 v225 v226 v227 v228 v229 v230 v231 v232 v233 v234 v235 v236 v237 v238 v239 v240 v241 v242 v243 v244 v245 v246 v247 v248 v249 v250 v251 v252 v253 v254 v255 v256 v257 v258 v259 v260 v261 v262 v263 v264 v265 v266 v267 v268 : Value} {w0 wd : World} {ZA ZB ZF ZG : List Int} {oa ob oc od : Option Addr} {n0 n1 n2 n3 n4 n5 ca cb cc cd c4 c5 b4 p4 b5 p5 ga gb lo hi lo' hi' nN mN half off : Nat}
    (hbel : Below w0.heap.size w0 wd) (SA : Copied wd oa n0 ca ga ZA w0.heap.size) (SB : Copied wd ob n1 cb gb ZB w0.heap.size)
    (SF : Lies wd b4 p4 n4 ZF) (SG : Lies wd b5 p5 n5 ZG) (k0 : n0 ≤ 4096) (k1 : n1 ≤ 4096) (k4 : n4 ≤ 32768) (k5 : n5 ≤ 32768) (k6 : lo + nN = hi) (k7 : hi ≤ n0) (k8 : lo' + mN = hi') (k9 : hi' ≤ n1)
    (hhalf : half = (nN + mN + 1) / 2) (hoff : off = n4 / 2) (t1 : half ≤ off) (t2 : off + half + 1 < n4) (t3 : off + half + 1 < n5) (hK : ∀ a w, Code.wp Try.prog (sub [1, 1, 1, 1, 1, 1, 1, 1, 1, 1, 1, 1, 1, 1, 1, 1, 1, 1, 1, 1] (Try.f3.body.getD .skip)) (bodyPost Try.prog Try.f3 (fun e w' => e = .returned (.bool true) ∧ Below w0.heap.size w0 w')) a w → K a w) :
    Code.wp Try.prog (sub [1, 1, 1, 1, 1, 1, 1, 1, 1, 1, 1, 1, 1, 1, 1, 1, 1, 1, 1, 0] (Try.f3.body.getD .skip)) (Exit.then K (bodyPost Try.prog Try.f3 (fun e w' => e = .returned (.bool true) ∧ Below w0.heap.size w0 w'))) ⟨#[.slice oa n0 ca, .slice ob n1 cb, .slice oc n2 cc, .slice od n3 cd, .slice (some ⟨b4, p4, none⟩) n4 c4, .slice (some ⟨b5, p5, none⟩) n5 c5, .int .i64 lo, .int .i64 hi, .int .i64 lo', .int .i64 hi', v10, v11, v12, v13, v14, v15, v16, v17, v18, v19, v20, v21, v22, v23, v24, v25, v26, v27, v28, v29, v30, v31, v32, v33, v34, v35, v36, v37, v38, v39, v40, v41, v42, v43, v44, v45, v46, v47, v48, v49, v50, v51, v52, v53, v54, v55, v56, v57, v58, v59, v60, v61, v62, v63, v64, v65, v66, v67, v68, v69, v70, v71, v72, v73, v74, v75, v76, v77, v78, v79, v80, v81, v82, v83, v84, v85, v86, v87, v88, v89, v90, v91, v92, v93, v94, v95, v96, v97, v98, v99, v100, v101, v102, v103, v104, v105, v106, v107, v108, v109, v110, v111, v112, v113, v114, v115, v116, v117, v118, v119, v120, v121, v122, v123, v124, v125, v126, v127, v128, v129, v130, v131, v132, v133, v134, v135, v136, v137, v138, v139, v140, v141, v142, v143, v144, v145, v146, v147, v148, v149, v150, v151, v152, v153, v154, v155, v156, v157, v158, v159, v160, v161, v162, v163, v164, v165, v166, v167, v168, v169, v170, v171, v172, v173, v174, v175, v176, v177, v178, v179, v180, v181, v182, v183, v184, v185, v186, v187, v188, v189, v190, v191, v192, v193, v194, v195, v196, v197, v198, v199, v200, v201, v202, v203, v204, v205, v206, v207, v208, v209, v210, v211, v212, v213, v214, v215, v216, v217, v218, v219, v220, v221, v222, v223, v224, v225, v226, v227, v228, v229, v230, v231, v232, v233, v234, v235, v236, v237, v238, v239, v240, v241, v242, v243, v244, v245, v246, v247, v248, v249, v250, v251, v252, v253, v254, v255, v256, v257, v258, v259, v260, v261, v262, v263, v264, v265, v266, v267, v268], []⟩ wd := by
  have Hbel := hide hbel
  have HSA := hide SA
  have HSB := hide SB
  have HSF := hide SF
  have HSG := hide SG
  have Hk6 := hide k6
  have Hk8 := hide k8
  have Hh := hide hhalf
  have Ho := hide hoff
  have m6 : lo + nN ≤ hi := by omega
  have m7 : hi ≤ lo + nN := by omega
  have m8 : lo' + mN ≤ hi' := by omega
  have m9 : hi' ≤ lo' + mN := by omega
  clear hbel SA SB SF SG hhalf hoff k6 k8
  conv at hK => enter [a, w, 1, 2]; whnf
  conv => arg 2; whnf
  go_wp2_with fail
  refine (clone_any ZF b4 p4 n4 c4 _ (unhide HSF).len (by omega) (unhide HSF).cell (fun _ => (unhide HSF).lt)).mono ?_
  rintro e w5 ⟨rfl, r5, b5', l5⟩
  have HG5 := hide (And.intro r5 (And.intro b5' l5))
  have HSG5 := hide ((unhide HSG).later b5')
  clear r5 b5' l5
  go_wp2_with fail
  refine (clone_any ZG b5 p5 n5 c5 _ (unhide HSG5).len (by omega) (unhide HSG5).cell (fun _ => (unhide HSG5).lt)).mono ?_
  rintro e w6 ⟨rfl, r6, b6', l6⟩
  have HG6 := hide (And.intro r6 (And.intro b6' l6))
  clear r6 b6' l6
  go_wp2_with fail
  obtain ⟨r5, r6, l5, l6, bel6⟩ := two_of (unhide HG5) (unhide HG6)
  have SA8 := (unhide HSA).later bel6
  have SB8 := (unhide HSB).later bel6
  obtain ⟨g5, eg5⟩ : ∃ g, g = wd.heap.size := ⟨_, rfl⟩
  obtain ⟨g6, eg6⟩ : ∃ g, g = w5.heap.size := ⟨_, rfl⟩
  rw [← eg5] at r5 l5 ⊢
  rw [← eg6] at r6 l5 l6 ⊢
  have HB0 := hide ((unhide Hbel).trans (bel6.mono (unhide Hbel).size))
  have hg5 : w0.heap.size ≤ g5 := by rw [eg5]; exact (unhide Hbel).size
  have hA5 : 0 < n0 → ga < g5 := by intro h; rw [eg5]; exact ((unhide HSA).at0 h).2.2.2
  have hB5 : 0 < n1 → gb < g5 := by intro h; rw [eg5]; exact ((unhide HSB).at0 h).2.2.2
  clear HG5 HG6 HSG5 eg5 eg6 HSA HSB
  have hlF := (unhide HSF).len
  have hlG := (unhide HSG).len
  have lZA := SA8.len
  have lZB := SB8.len
  have lA : (cut ZA lo nN).length = nN := cut_len (by omega)
  have lB : (cut ZB lo' mN).length = mN := cut_len (by omega)
  obtain ⟨R, u0, v0, u1, v1, hR, hM, lF, lG, hans⟩ := search_all (cut ZA lo nN) (cut ZB lo' mN) ZF ZG half off (by rw [lA, lB]; exact unhide Hh) t1 (by omega) (by omega)
  have hc1 := zz_any w6 (cut ZA lo nN) (cut ZB lo' mN) ZF ZG g5 g6 ga 0 gb 0 lo lo' hi hi' n0 n1 ca cb n4 n5 oa ob oc od n2 n3 cc cd (stretch_whole SA8 (by omega)) (stretch_whole SB8 (by omega)) k0 k1 (by omega) (by omega) r5 r6 (by omega)
    (fun h => by rw [lA] at h; have := hA5 (by omega); omega) (fun h => by rw [lB] at h; have := hB5 (by omega); omega) half off (by rw [lA, lB]; exact unhide Hh) (by rw [hlF]; exact unhide Ho) (by rw [lA]; omega) (by rw [lB]; omega) t1 (by omega) (by omega) R hR
  rw [hlF, hlG, hans lo lo' hi hi' (by rw [lA]; omega) (by rw [lB]; omega)] at hc1
  obtain ⟨x0, ex0⟩ : ∃ x0, x0 = lo + u0 := ⟨_, rfl⟩
  obtain ⟨y0, ey0⟩ : ∃ y0, y0 = lo' + v0 := ⟨_, rfl⟩
  obtain ⟨x1, ex1⟩ : ∃ x1, x1 = lo + u1 := ⟨_, rfl⟩
  obtain ⟨y1, ey1⟩ : ∃ y1, y1 = lo' + v1 := ⟨_, rfl⟩
  rw [← ex0, ← ey0, ← ex1, ← ey1] at hc1
  have EX := hide (And.intro (And.intro ex0 ey0) (And.intro ex1 ey1))
  have z1 : lo + u0 ≤ x0 := by omega
  have z2 : x0 ≤ lo + u0 := by omega
  have z3 : lo' + v0 ≤ y0 := by omega
  have z4 : y0 ≤ lo' + v0 := by omega
  have z5 : lo + u1 ≤ x1 := by omega
  have z6 : x1 ≤ lo + u1 := by omega
  have z7 : lo' + v1 ≤ y1 := by omega
  have z8 : y1 ≤ lo' + v1 := by omega
  have r1 := hM.u01
  have r2 := hM.u1n
  have r3 := hM.v01
  have r4 := hM.v1m
  have rs := hM.same
  rw [lA] at r2
  rw [lB] at r4
  refine hc1.mono ?_
  rintro e w9 ⟨rfl, S9⟩
  have SA9 := SA8.touch S9.touch (fun h => by have := hA5 h; omega)
  have SB9 := SB8.touch S9.touch (fun h => by have := hB5 h; omega)
  obtain ⟨D, hD⟩ : ∃ D, D = Ei (mtL (cut ZA lo nN) (cut ZB lo' mN)) (cut ZA lo nN).length (cut ZB lo' mN).length := ⟨_, rfl⟩
  have D0 : 0 ≤ D := by rw [hD]; exact Ei_nonneg _ (by omega) (by omega)
  have D1 : D ≤ 8192 := by have := Ei_le_sum (mtL (cut ZA lo nN) (cut ZB lo' mN)) (cut ZA lo nN).length (cut ZB lo' mN).length; rw [lA, lB] at this; rw [hD, lA, lB]; omega
  have dd1 : ∀ W, Below w9.heap.size w9 W → Calls Try.prog 8 #[.slice oa n0 ca, .int .i64 lo, .int .i64 hi, .slice ob n1 cb, .int .i64 lo', .int .i64 hi'] W fun e w' => e = .returned (.int .i64 D) ∧ Below W.heap.size W w' := by
    intro W hW
    have := dist_any W (cut ZA lo nN) (cut ZB lo' mN) lo hi lo' hi' n0 n1 ca cb ga 0 gb 0 oa ob (stretch_whole (SA9.later hW) (by omega)) (stretch_whole (SB9.later hW) (by omega)) (by rw [lA]; omega) (by rw [lB]; omega) k0 k1
    rwa [← hD] at this
  have dd2 : ∀ W, Below w9.heap.size w9 W → Calls Try.prog 8 #[.slice oa n0 ca, .int .i64 lo, .int .i64 x0, .slice ob n1 cb, .int .i64 lo', .int .i64 y0] W fun e w' => e = .returned (.int .i64 ((D + 1) / 2)) ∧ Below W.heap.size W w' := by
    intro W hW
    have := dist_any W (cut ZA lo u0) (cut ZB lo' v0) lo x0 lo' y0 n0 n1 ca cb ga 0 gb 0 oa ob (stretch_whole (SA9.later hW) (by omega)) (stretch_whole (SB9.later hW) (by omega)) (by rw [cut_len (by omega)]; omega) (by rw [cut_len (by omega)]; omega) k0 k1
    rwa [dist_before (n := nN) (m := mN) (by omega) (by omega) (by omega) (by omega), hM.before, ← hD] at this
  have dd3 : ∀ W, Below w9.heap.size w9 W → Calls Try.prog 8 #[.slice oa n0 ca, .int .i64 x1, .int .i64 hi, .slice ob n1 cb, .int .i64 y1, .int .i64 hi'] W fun e w' => e = .returned (.int .i64 (D / 2)) ∧ Below W.heap.size W w' := by
    intro W hW
    have := dist_any W (cut ZA (lo + u1) (nN - u1)) (cut ZB (lo' + v1) (mN - v1)) x1 hi y1 hi' n0 n1 ca cb ga 0 gb 0 oa ob (by rw [ex1]; exact stretch_whole (SA9.later hW) (by omega)) (by rw [ey1]; exact stretch_whole (SB9.later hW) (by omega)) (by rw [cut_len (by omega)]; omega) (by rw [cut_len (by omega)]; omega) k0 k1
    rwa [dist_after (n := nN) (m := mN) (by omega) (by omega) (by omega) (by omega), hM.after, ← hD] at this
  have HD1 := hide dd1
  have HD2 := hide dd2
  have HD3 := hide dd3
  have HBl := hide ((unhide HB0).trans (S9.touch.below (unhide HB0).size (fun k hk => by omega)))
  have rab : ∀ k, k < u1 - u0 → (0 < n0 ∧ 0 < n1) ∧ ZA.getD (x0 + k) 0 = ZB.getD (y0 + k) 0 := by
    intro k hk
    have := hM.run k hk
    rw [cut_at (by omega), cut_at (by omega)] at this
    refine ⟨by omega, ?_⟩
    rw [ex0, ey0, Nat.add_assoc, Nat.add_assoc]
    exact this
  have Rab := hide rab
  have HSA9 := hide SA9
  have HSB9 := hide SB9
  have d5 : ((x1 : Int) - x0 != (y1 : Int) - y0) = false := by rw [bne_eq_false_iff_eq]; omega
  have d6 : ((D + 1) / 2 == (D + 1) / 2) = true := by simp
  have d7 : (D / 2 == D / 2) = true := by simp
  clear hc1 SA8 SB8 SA9 SB9 S9 hM hans hR hlF hlG lF lG hA5 hB5 lA lB dd1 dd2 dd3 rab hD ex0 ey0 ex1 ey1 r5 r6 bel6 lZA lZB
  by_cases hpos : u0 < u1
  · have p1 := (unhide HSA9).at0 ((unhide Rab) 0 (by omega)).1.1
    have p2 := (unhide HSB9).at0 ((unhide Rab) 0 (by omega)).1.2
    obtain ⟨rfl, p1, -, -⟩ := p1
    obtain ⟨rfl, p2, -, -⟩ := p2
    have P1 := hide p1
    have P2 := hide p2
    clear p1 p2
    go_wp2_with fail
    go_loopg [33] (u1 - u0) (fun g s33 wx => ∃ k nq : Nat, s33 = .int .i64 k ∧ g + k = u1 - u0 ∧ wx = w9.drewN nq)
    case atStart => exact ⟨0, 0, rfl, rfl, rfl⟩
    case round =>
      obtain ⟨k, n9, rfl, hg, rfl⟩ := hrel
      have Hg := hide hg
      by_cases c : k < u1 - u0
      · have ab := (unhide Rab) k c
        have xa := ints_cell (unhide P1) (x0 + k) (by have := (unhide HSA9).len; omega)
        have xb := ints_cell (unhide P2) (y0 + k) (by have := (unhide HSB9).len; omega)
        rw [ab.2] at xa
        obtain ⟨x, ex⟩ : ∃ x, x = ZB.getD (y0 + k) 0 := ⟨_, rfl⟩
        rw [← ex] at xa xb
        have hxx : (x != x) = false := by simp
        have c1 : (x0 : Int) + k < n0 := by omega
        have c2 : (y0 : Int) + k < n1 := by omega
        have c3 : (k : Int) < (x1 : Int) - x0 := by omega
        clear ab ex hg
        go_wp2_with fail
        go_quiet (fail)
        go_wp2
        go_roundg (gk - 1)
        case measure => go_light; have := unhide Hg; omega
        case rel => go_light; exact ⟨k + 1, n9 + nq, by go_num, by have := unhide Hg; omega, by first | rfl | simp⟩
      · clear hg
        go_wp2_with fail
        refine (unhide HD1 _ (by first | exact below_drewN (Below.refl _ _) _ | exact Below.refl _ _)).mono ?_
        rintro e wy ⟨rfl, bw1⟩
        have HB1 := hide (show Below w9.heap.size w9 wy from ⟨bw1.os, bw1.tape, bw1.output, bw1.size, bw1.block⟩)
        clear bw1
        go_wp2_with fail
        refine (unhide HD2 _ (unhide HB1)).mono ?_
        rintro e wz ⟨rfl, bw2⟩
        have HB2 := hide ((unhide HB1).trans (bw2.mono (unhide HB1).size))
        clear bw2
        go_wp2_with fail
        refine (unhide HD3 _ (unhide HB2)).mono ?_
        rintro e wq ⟨rfl, bw3⟩
        have HB3 := hide ((unhide HB2).trans (bw3.mono (unhide HB2).size))
        clear bw3
        go_wp2_with fail
        go_ret
        exact ⟨rfl, (unhide HBl).trans ((unhide HB3).mono (unhide HBl).size)⟩

  · have hx : x1 ≤ x0 := by omega
    go_wp2_with fail
    refine wp_loop_rounds 1 ?_
    rw [rounds_succ]
    go_wp2_with fail
    refine (unhide HD1 _ (by first | exact below_drewN (Below.refl _ _) _ | exact Below.refl _ _)).mono ?_
    rintro e wy ⟨rfl, bw1⟩
    have HB1 := hide (show Below w9.heap.size w9 wy from ⟨bw1.os, bw1.tape, bw1.output, bw1.size, bw1.block⟩)
    clear bw1
    go_wp2_with fail
    refine (unhide HD2 _ (unhide HB1)).mono ?_
    rintro e wz ⟨rfl, bw2⟩
    have HB2 := hide ((unhide HB1).trans (bw2.mono (unhide HB1).size))
    clear bw2
    go_wp2_with fail
    refine (unhide HD3 _ (unhide HB2)).mono ?_
    rintro e wq ⟨rfl, bw3⟩
    have HB3 := hide ((unhide HB2).trans (bw3.mono (unhide HB2).size))
    clear bw3
    go_wp2_with fail
    go_ret
    exact ⟨rfl, (unhide HBl).trans ((unhide HB3).mono (unhide HBl).size)⟩

end Go.Proofs.Qxb6617690a
