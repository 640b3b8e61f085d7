import Derived.Test.Qxb6617690aFacts
import Derived.Deep.RegionWith
import Derived.Deep.CutBlock
import Derived.Deep.DeepCutAuto
import Derived.Deep.Light
import Derived.WalkSmall
namespace Go.Proofs.Qxb6617690a
open Go.RowKit Plain

set_option maxRecDepth 100000 in
set_option maxHeartbeats 8000000 in
theorem tail4 {K : Act → World → Prop} {v10 v11 v12 v13 v14 v15 v16 v17 v18 v19 v20 v21 v22 v23 v24 v27 v28 v29 v30 v31 v32 v33 v34 v35 v36 v37 v38 v39 v40 v41 v42 v43 v44 v45 v46 v47 v48 v49 v50 v51 v52 v53 v54 v55 v56 v57 v58 v59 v60 v61 v62 v63 v64 v65 v66 v67 v68 v69 v70 v71 v72 v73 v74 v75 v76 v77 v78 v79 v80 v81 v82 v83 v84 v85 v86 v87 v88 v89 v90 v91 v92 v93 v94 v95 v96 v97 v98 v99 v100 v101 v102 v103 v104 v105 v106 v107 v108 v109 v110 v111 v112 v113 v114 v115 v116 v117 v118 v119 v120 v121 v122 v123 v124 v125 v126 v127 v128 v129 v130 v131 v132 v133 v134 v135 v136 v137 v138 v139 v140 v141 v142 v143 v144 v145 v146 v147 v148 v149 v150 v151 v152 v153 v154 v155 v156 v157 v158 v159 v160 v161 v162 v163 v164 v165 v166 v167 v168 v169 v170 v171 v172 v173 v174 v175 v176 v177 v178 v179 v180 v181 v182 v183 v184 v185 v186 v187 v188 v189 v190 v191 v192 v193 v194 v195 v196 v197 v198 v199 v200 v201 v202 v203 v204 v205 v206 v207 v208 v209 v210 v211 v212 v213 v214 v215 v216 v217 v218 v219 v220 v221 v222 v223 v224 v225 v226 v227 v228 v229 v230 v231 v232 v233 v234 v235 v236 v237 v238 v239 v240 v241 v242 v243 v244 v245 v246 v247 v248 v249 v250 v251 v252 v253 v254 v255 v256 v257 v258 v259 v260 v261 v262 v263 v264 v265 v266 v267 v268 v269 v270 v271 v272 v273 v274 v275 v276 v277 v278 v279 v280 v281 v282 v283 v284 v285 v286 v287 v288 v289 v290 v291 v292 v293 v294 v295 v296 v297 v298 v299 : Value} {w0 wd : World} {ZA ZB ZF ZG : List Int} {oa ob oc od : Option Addr} {n0 n1 n2 n3 n4 n5 ca cb cc cd c4 c5 b4 p4 b5 p5 ga gb lo hi lo' hi' nN mN half off : Nat}
    (hbel : Below w0.heap.size w0 wd) (SA : Copied wd oa n0 ca ga ZA w0.heap.size) (SB : Copied wd ob n1 cb gb ZB w0.heap.size)
    (SF : Lies wd b4 p4 n4 ZF) (SG : Lies wd b5 p5 n5 ZG) (k0 : n0 ≤ 4096) (k1 : n1 ≤ 4096) (k4 : n4 ≤ 32768) (k5 : n5 ≤ 32768) (k6 : lo + nN = hi) (k7 : hi ≤ n0) (k8 : lo' + mN = hi') (k9 : hi' ≤ n1)
    (hhalf : half = (nN + mN + 1) / 2) (hoff : off = n4 / 2) (t1 : half ≤ off) (t2 : off + half + 1 < n4) (t3 : off + half + 1 < n5) (hK : ∀ a w, Code.wp Try.prog (sub [1, 1, 1, 1, 1, 1, 1, 1, 1, 1, 1, 1, 1, 1, 1, 1, 1, 1, 1, 1] (Try.f4.body.getD .skip)) (bodyPost Try.prog Try.f4 (fun e w' => e = .returned (.bool true) ∧ Below w0.heap.size w0 w')) a w → K a w) :
    Code.wp Try.prog (sub [1, 1, 1, 1, 1, 1, 1, 1, 1, 1, 1, 1, 1, 1, 1, 1, 1, 1, 1, 0] (Try.f4.body.getD .skip)) (Exit.then K (bodyPost Try.prog Try.f4 (fun e w' => e = .returned (.bool true) ∧ Below w0.heap.size w0 w'))) ⟨#[.slice oa n0 ca, .slice ob n1 cb, .slice oc n2 cc, .slice od n3 cd, .slice (some ⟨b4, p4, none⟩) n4 c4, .slice (some ⟨b5, p5, none⟩) n5 c5, .int .i64 lo, .int .i64 hi, .int .i64 lo', .int .i64 hi', v10, v11, v12, v13, v14, v15, v16, v17, v18, v19, v20, v21, v22, v23, v24, .int .i64 nN, .int .i64 mN, v27, v28, v29, v30, v31, v32, v33, v34, v35, v36, v37, v38, v39, v40, v41, v42, v43, v44, v45, v46, v47, v48, v49, v50, v51, v52, v53, v54, v55, v56, v57, v58, v59, v60, v61, v62, v63, v64, v65, v66, v67, v68, v69, v70, v71, v72, v73, v74, v75, v76, v77, v78, v79, v80, v81, v82, v83, v84, v85, v86, v87, v88, v89, v90, v91, v92, v93, v94, v95, v96, v97, v98, v99, v100, v101, v102, v103, v104, v105, v106, v107, v108, v109, v110, v111, v112, v113, v114, v115, v116, v117, v118, v119, v120, v121, v122, v123, v124, v125, v126, v127, v128, v129, v130, v131, v132, v133, v134, v135, v136, v137, v138, v139, v140, v141, v142, v143, v144, v145, v146, v147, v148, v149, v150, v151, v152, v153, v154, v155, v156, v157, v158, v159, v160, v161, v162, v163, v164, v165, v166, v167, v168, v169, v170, v171, v172, v173, v174, v175, v176, v177, v178, v179, v180, v181, v182, v183, v184, v185, v186, v187, v188, v189, v190, v191, v192, v193, v194, v195, v196, v197, v198, v199, v200, v201, v202, v203, v204, v205, v206, v207, v208, v209, v210, v211, v212, v213, v214, v215, v216, v217, v218, v219, v220, v221, v222, v223, v224, v225, v226, v227, v228, v229, v230, v231, v232, v233, v234, v235, v236, v237, v238, v239, v240, v241, v242, v243, v244, v245, v246, v247, v248, v249, v250, v251, v252, v253, v254, v255, v256, v257, v258, v259, v260, v261, v262, v263, v264, v265, v266, v267, v268, v269, v270, v271, v272, v273, v274, v275, v276, v277, v278, v279, v280, v281, v282, v283, v284, v285, v286, v287, v288, v289, v290, v291, v292, v293, v294, v295, v296, v297, v298, v299], []⟩ wd := by
  have Hbel := hide hbel
  have HSA := hide SA
  have HSB := hide SB
  have HSF := hide SF
  have HSG := hide SG
  have Hk6 := hide k6
  have Hk8 := hide k8
  have Hh := hide hhalf
  have Ho := hide hoff
  have m6 : lo + nN ≤ hi := by omega
  have m7 : hi ≤ lo + nN := by omega
  have m8 : lo' + mN ≤ hi' := by omega
  have m9 : hi' ≤ lo' + mN := by omega
  clear hbel SA SB SF SG hhalf hoff k6 k8
  conv at hK => enter [a, w, 1, 2]; whnf
  conv => arg 2; whnf
  go_wp2_with fail
  refine (clone_any ZF b4 p4 n4 c4 _ (unhide HSF).len (by omega) (unhide HSF).cell (fun _ => (unhide HSF).lt)).mono ?_
  rintro e w5 ⟨rfl, r5, b5', l5⟩
  have HG5 := hide (And.intro r5 (And.intro b5' l5))
  have HSG5 := hide ((unhide HSG).later b5')
  clear r5 b5' l5
  go_wp2_with fail
  refine (clone_any ZG b5 p5 n5 c5 _ (unhide HSG5).len (by omega) (unhide HSG5).cell (fun _ => (unhide HSG5).lt)).mono ?_
  rintro e w6 ⟨rfl, r6, b6', l6⟩
  have HG6 := hide (And.intro r6 (And.intro b6' l6))
  have HSF6 := hide (((unhide HSF).later (unhide HG5).2.1).later b6')
  clear r6 b6' l6
  go_wp2_with fail
  refine (clone_any ZF b4 p4 n4 c4 _ (unhide HSF6).len (by omega) (unhide HSF6).cell (fun _ => (unhide HSF6).lt)).mono ?_
  rintro e w7 ⟨rfl, r7, b7', l7⟩
  have HG7 := hide (And.intro r7 (And.intro b7' l7))
  have HSG7 := hide (((unhide HSG5).later (unhide HG6).2.1).later b7')
  clear r7 b7' l7
  go_wp2_with fail
  refine (clone_any ZG b5 p5 n5 c5 _ (unhide HSG7).len (by omega) (unhide HSG7).cell (fun _ => (unhide HSG7).lt)).mono ?_
  rintro e w8 ⟨rfl, r8, b8', l8⟩
  have HG8 := hide (And.intro r8 (And.intro b8' l8))
  clear r8 b8' l8
  go_wp2_with fail
  have F4 := four_of (unhide HG5) (unhide HG6) (unhide HG7) (unhide HG8)
  have SA8 := (unhide HSA).later F4.bel
  have SB8 := (unhide HSB).later F4.bel
  obtain ⟨g5, eg5⟩ : ∃ g, g = wd.heap.size := ⟨_, rfl⟩
  obtain ⟨g6, eg6⟩ : ∃ g, g = w5.heap.size := ⟨_, rfl⟩
  obtain ⟨g7, eg7⟩ : ∃ g, g = w6.heap.size := ⟨_, rfl⟩
  obtain ⟨g8, eg8⟩ : ∃ g, g = w7.heap.size := ⟨_, rfl⟩
  rw [← eg5, ← eg6, ← eg7, ← eg8] at F4 ⊢
  have HB0 := hide ((unhide Hbel).trans (F4.bel.mono (unhide Hbel).size))
  have hg5 : w0.heap.size ≤ g5 := by rw [eg5]; exact (unhide Hbel).size
  have hA5 : 0 < n0 → ga < g5 := by intro h; rw [eg5]; exact ((unhide HSA).at0 h).2.2.2
  have hB5 : 0 < n1 → gb < g5 := by intro h; rw [eg5]; exact ((unhide HSB).at0 h).2.2.2
  clear HG5 HG6 HG7 HG8 HSG5 HSF6 HSG7 eg5 eg6 eg7 eg8 HSA HSB
  have hlF := (unhide HSF).len
  have hlG := (unhide HSG).len
  have o6 := F4.o6
  have o7 := F4.o7
  have o8 := F4.o8
  have lA : (cut ZA lo nN).length = nN := cut_len (by have := SA8.len; omega)
  have lB : (cut ZB lo' mN).length = mN := cut_len (by have := SB8.len; omega)
  obtain ⟨R, u0, v0, u1, v1, hR, hM, lF, lG, hans⟩ := search_all (cut ZA lo nN) (cut ZB lo' mN) ZF ZG half off (by rw [lA, lB]; exact unhide Hh) t1 (by omega) (by omega)
  have hc1 := zz_any w8 (cut ZA lo nN) (cut ZB lo' mN) ZF ZG g5 g6 ga 0 gb 0 lo lo' hi hi' n0 n1 ca cb n4 n5 oa ob oc od n2 n3 cc cd (stretch_whole SA8 (by omega)) (stretch_whole SB8 (by omega)) k0 k1 (by omega) (by omega) F4.h5 F4.h6 (by omega)
    (fun h => by rw [lA] at h; have := hA5 (by omega); omega) (fun h => by rw [lB] at h; have := hB5 (by omega); omega) half off (by rw [lA, lB]; exact unhide Hh) (by rw [hlF]; exact unhide Ho) (by rw [lA]; omega) (by rw [lB]; omega) t1 (by omega) (by omega) R hR
  rw [hlF, hlG, hans lo lo' hi hi' (by rw [lA]; omega) (by rw [lB]; omega)] at hc1
  obtain ⟨x0, ex0⟩ : ∃ x0, x0 = lo + u0 := ⟨_, rfl⟩
  obtain ⟨y0, ey0⟩ : ∃ y0, y0 = lo' + v0 := ⟨_, rfl⟩
  obtain ⟨x1, ex1⟩ : ∃ x1, x1 = lo + u1 := ⟨_, rfl⟩
  obtain ⟨y1, ey1⟩ : ∃ y1, y1 = lo' + v1 := ⟨_, rfl⟩
  rw [← ex0, ← ey0, ← ex1, ← ey1] at hc1
  have EX := hide (And.intro (And.intro ex0 ey0) (And.intro ex1 ey1))
  have z1 : lo + u0 ≤ x0 := by omega
  have z2 : x0 ≤ lo + u0 := by omega
  have z3 : lo' + v0 ≤ y0 := by omega
  have z4 : y0 ≤ lo' + v0 := by omega
  have z5 : lo + u1 ≤ x1 := by omega
  have z6 : x1 ≤ lo + u1 := by omega
  have z7 : lo' + v1 ≤ y1 := by omega
  have z8 : y1 ≤ lo' + v1 := by omega
  clear ex0 ey0 ex1 ey1
  refine hc1.mono ?_
  rintro e w9 ⟨rfl, S9⟩
  have SA9 := SA8.touch S9.touch (fun h => by have := hA5 h; omega)
  have SB9 := SB8.touch S9.touch (fun h => by have := hB5 h; omega)
  have l8 : g8 < w8.heap.size := (Array.getElem?_eq_some_iff.1 F4.h8).1
  have r7 : w9.heap[g7]? = some (ints ZF) := by rw [S9.touch.block g7 (by omega) (by omega)]; exact F4.h7
  have r8 : w9.heap[g8]? = some (ints ZG) := by rw [S9.touch.block g8 (by omega) (by omega)]; exact F4.h8
  have hca : hi ≤ ca := by
    rcases SA9.room with h | h
    · have := SA9.nil h; omega
    · omega
  have hcb : hi' ≤ cb := by
    rcases SB9.room with h | h
    · have := SB9.nil h; omega
    · omega
  obtain ⟨oa2, sl1, sl1'⟩ := slice_any oa n0 ca lo hi (by omega) hca
  obtain ⟨ob2, sl2, sl2'⟩ := slice_any ob n1 cb lo' hi' (by omega) hcb
  rw [show hi - lo = nN from by omega] at sl1 sl1'
  rw [show hi' - lo' = mN from by omega] at sl2 sl2'
  have hc2 := zz_any w9.drew (cut ZA lo nN) (cut ZB lo' mN) ZF ZG g7 g8 ga lo gb lo' 0 0 nN mN nN mN (ca - lo) (cb - lo') n4 n5 oa2 ob2 oc od n2 n3 cc cd (stretch_part (w := w9.drew) (Copied.drew SA9) (by omega) sl1') (stretch_part (w := w9.drew) (Copied.drew SB9) (by omega) sl2') (by omega) (by omega) (by omega) (by omega) r7 r8 (by omega)
    (fun h => by rw [lA] at h; have := hA5 (by omega); omega) (fun h => by rw [lB] at h; have := hB5 (by omega); omega) half off (by rw [lA, lB]; exact unhide Hh) (by rw [hlF]; exact unhide Ho) (by rw [lA]; omega) (by rw [lB]; omega) t1 (by omega) (by omega) R hR
  rw [hlF, hlG, hans 0 0 nN mN (by rw [lA]; omega) (by rw [lB]; omega)] at hc2
  simp only [Nat.zero_add, Int.ofNat_zero] at hc2
  have HC2 := hide hc2
  have HSA9 := hide SA9
  have HSB9 := hide SB9
  have HS9 := hide S9
  have HM := hide hM
  have HlF := hide (And.intro hlF lF)
  have HlG := hide (And.intro hlG lG)
  clear hc1 hc2 SA8 SB8 SA9 SB9 S9 hM hans hR F4 sl1' sl2' hlF hlG lF lG r7 r8 lA lB
  go_wp2_with fail
  go_cut [37, 38, 39, 40] from 193 to 212 (fun s37 s38 s39 s40 wx => s37 = .int .i64 u0 ∧ s38 = .int .i64 v0 ∧ s39 = .int .i64 u1 ∧ s40 = .int .i64 v1 ∧ St w9.drew g7 g8 R.2.2.2.1 R.2.2.2.2 wx)
  case first =>
    go_region_with (go_at_call 7; refine (unhide HC2).mono ?_; rintro e w' ⟨rfl, hS⟩)
    go_wp2
    go_simp
    go_meet
    case rel => exact ⟨rfl, rfl, rfl, rfl, hS⟩
  case rest =>
    obtain ⟨rfl, rfl, rfl, rfl, S10⟩ := hcut
    have M := unhide HM
    have r1 := M.u01
    have r2 := M.u1n
    have r3 := M.v01
    have r4 := M.v1m
    have r5 := M.same
    rw [cut_len (by have := (unhide HSA9).len; omega)] at r2
    rw [cut_len (by have := (unhide HSB9).len; omega)] at r4
    have HS10 := hide S10
    have r5a : (u1 : Int) - u0 = (v1 : Int) - v0 := by omega
    have d1 : ((x0 : Int) != (u0 : Int) + lo) = false := by rw [bne_eq_false_iff_eq]; omega
    have d2 : ((y0 : Int) != (v0 : Int) + lo') = false := by rw [bne_eq_false_iff_eq]; omega
    have d3 : ((x1 : Int) != (u1 : Int) + lo) = false := by rw [bne_eq_false_iff_eq]; omega
    have d4 : ((y1 : Int) != (v1 : Int) + lo') = false := by rw [bne_eq_false_iff_eq]; omega
    have d5 : ((x1 : Int) - x0 != (y1 : Int) - y0) = false := by rw [bne_eq_false_iff_eq]; omega
    clear S10 M r5 sl1 sl2
    have SA10 : Copied wc oa n0 ca ga ZA w0.heap.size := (Copied.drew (unhide HSA9)).touch (unhide HS10).touch (fun h => by have := hA5 h; omega)
    have SB10 : Copied wc ob n1 cb gb ZB w0.heap.size := (Copied.drew (unhide HSB9)).touch (unhide HS10).touch (fun h => by have := hB5 h; omega)
    have lg9 : g8 < w9.heap.size := by have := (unhide HS9).touch.size; omega
    have rF1 : wc.heap[g5]? = some (ints R.2.2.2.1) := by rw [(unhide HS10).touch.block g5 (by show g5 < w9.heap.size; omega) (by omega)]; exact (unhide HS9).hf
    have rG1 : wc.heap[g6]? = some (ints R.2.2.2.2) := by rw [(unhide HS10).touch.block g6 (by show g6 < w9.heap.size; omega) (by omega)]; exact (unhide HS9).hg
    have hBel : Below w0.heap.size w0 wc := ((unhide HB0).trans ((unhide HS9).touch.below (unhide HB0).size (fun k hk => by omega))).trans
      (Below.trans (Below.drew (Below.refl _ _)) ((unhide HS10).touch.below (B := w0.heap.size) (Nat.le_trans (unhide HB0).size (unhide HS9).touch.size) (fun k hk => by omega)))
    have sm1 := fun n => same_any R.2.2.2.1 g5 g7 n4 n4 (wc.drewN n) (by have := (unhide HlF).2; have := (unhide HlF).1; omega) rF1 (unhide HS10).hf
    have sm2 := fun n => same_any R.2.2.2.2 g6 g8 n5 n5 (wc.drewN n) (by have := (unhide HlG).2; have := (unhide HlG).1; omega) rG1 (unhide HS10).hg
    rw [(unhide HlF).2, (unhide HlF).1] at sm1
    rw [(unhide HlG).2, (unhide HlG).1] at sm2
    have HSm1 := hide sm1
    have HSm2 := hide sm2
    have HBl := hide hBel
    have HSA10 := hide SA10
    have HSB10 := hide SB10
    have rab : ∀ k, k < u1 - u0 → (0 < n0 ∧ 0 < n1) ∧ ZA.getD (x0 + k) 0 = ZB.getD (y0 + k) 0 := by
      intro k hk
      have := (unhide HM).run k hk
      have hs := (unhide HM).same
      rw [cut_at (by omega), cut_at (by omega)] at this
      refine ⟨by omega, ?_⟩
      rw [(unhide EX).1.1, (unhide EX).1.2, Nat.add_assoc, Nat.add_assoc]
      exact this
    have Rab := hide rab
    clear hA5 hB5 sm1 sm2 rF1 rG1 hBel SA10 SB10 rab
    by_cases hpos : u0 < u1
    · have p1 := (unhide HSA10).at0 ((unhide Rab) 0 (by omega)).1.1
      have p2 := (unhide HSB10).at0 ((unhide Rab) 0 (by omega)).1.2
      obtain ⟨rfl, p1, -, -⟩ := p1
      obtain ⟨rfl, p2, -, -⟩ := p2
      have P1 := hide p1
      have P2 := hide p2
      clear p1 p2
      go_wp2_with fail
      go_loopg [41] (u1 - u0) (fun g s41 wx => ∃ k nq : Nat, s41 = .int .i64 k ∧ g + k = u1 - u0 ∧ wx = wc.drewN nq)
      case atStart => exact ⟨0, 0, rfl, rfl, rfl⟩
      case round =>
        obtain ⟨k, n9, rfl, hg, rfl⟩ := hrel
        have Hg := hide hg
        by_cases c : k < u1 - u0
        · have ab := (unhide Rab) k c
          have xa := ints_cell (unhide P1) (x0 + k) (by have := (unhide HSA10).len; omega)
          have xb := ints_cell (unhide P2) (y0 + k) (by have := (unhide HSB10).len; have := (unhide HM).same; omega)
          rw [ab.2] at xa
          obtain ⟨x, ex⟩ : ∃ x, x = ZB.getD (y0 + k) 0 := ⟨_, rfl⟩
          rw [← ex] at xa xb
          have hxx : (x != x) = false := by simp
          have c1 : (x0 : Int) + k < n0 := by omega
          have c2 : (y0 : Int) + k < n1 := by have := (unhide HM).same; omega
          have c3 : (k : Int) < (x1 : Int) - x0 := by omega
          clear ab ex hg
          go_wp2_with fail
          go_quiet (fail)
          go_wp2
          go_roundg (gk - 1)
          case measure => go_light; have := unhide Hg; omega
          case rel => go_light; exact ⟨k + 1, n9 + nq, by go_num, by have := unhide Hg; omega, by first | rfl | simp⟩
        · clear hg
          go_wp2_with fail
          refine (unhide HSm1 _).mono ?_
          rintro e wy ⟨rfl, m1, rfl⟩
          go_wp2_with fail
          refine (unhide HSm2 _).mono ?_
          rintro e wy ⟨rfl, m2, rfl⟩
          go_wp2_with fail
          go_ret
          exact ⟨rfl, by first | exact below_drewN (unhide HBl) _ | exact below_drewN (below_drewN (unhide HBl) _) _⟩
    · have hx : x1 ≤ x0 := by omega
      go_wp2_with fail
      refine wp_loop_rounds 1 ?_
      rw [rounds_succ]
      go_wp2_with fail
      refine (unhide HSm1 0).mono ?_
      rintro e wy ⟨rfl, m1, rfl⟩
      go_wp2_with fail
      refine (unhide HSm2 _).mono ?_
      rintro e wy ⟨rfl, m2, rfl⟩
      go_wp2_with fail
      go_ret
      exact ⟨rfl, by first | exact below_drewN (unhide HBl) _ | exact below_drewN (below_drewN (unhide HBl) _) _⟩
end Go.Proofs.Qxb6617690a
