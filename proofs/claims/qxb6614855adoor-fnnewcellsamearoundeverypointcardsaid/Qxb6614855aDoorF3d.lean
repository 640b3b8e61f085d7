/- The first law: a corner's neighbours. -/
import Derived.Test.Qxb6614855aDoorF3b
import Derived.Test.Qxb6614855aDoorF3c
namespace Go.Proofs.Qxb6614855aDoor
open Go.RowKit

theorem vsub_at (k : Nat) : ∀ j, j < 4 → (vsub k 0 4)[j]? = some (.float .f64 (fb (k.testBit j)))
  | 0, _ => rfl
  | 1, _ => rfl
  | 2, _ => rfl
  | 3, _ => rfl
  | _ + 4, h => by omega
theorem bit_same (k j i : Nat) (h : i ≠ j) : (k ^^^ 2 ^ j).testBit i = k.testBit i := by
  rw [Nat.testBit_xor, Nat.testBit_two_pow]
  have : ¬ j = i := fun e => h e.symm
  simp [this]
theorem bit_mirror (k j : Nat) : (k ^^^ 2 ^ j).testBit j = !k.testBit j := by
  rw [Nat.testBit_xor, Nat.testBit_two_pow]
  simp

set_option maxRecDepth 100000 in
set_option maxHeartbeats 4000000 in
theorem nextLoop {Q : Exit → Act → World → Prop} {v0 v1 v2 v4 v5 v7 v8 v9 v10 v11 v14 v15 v16 v17 v18 v19 v20 v21 v22 v23 v24 v25 v26 v27 v28 v29 v30 v31 v32 v33 v34 v35 v36 v37 v38 v39 v40 v41 v42 v43 v44 v45 v46 v47 v48 v49 v50 v51 v52 v53 v54 v55 v56 v57 v58 v59 v60 v61 v62 v63 v64 v65 v66 v67 v68 v69 v70 v71 v72 v73 v74 v75 v76 v77 v78 v79 v80 v81 v82 v83 v84 v85 v86 v87 v88 v89 v90 v91 v92 v93 v94 v95 v96 v97 v98 v99 v100 v101 v102 v103 v104 v105 v106 v107 v108 v109 v110 v111 v112 v113 v114 v115 v116 v117 v118 v119 v120 v121 v122 v123 v124 v125 v126 v127 v128 v129 v130 v131 v132 v133 v134 v135 v136 v137 v138 v139 v140 v141 v142 v143 v144 v145 v146 v147 v148 v149 v150 v151 v152 v153 v154 v155 v156 v157 v158 v159 v160 v161 v162 v163 v164 v165 v166 v167 v168 v169 v170 v171 v172 v173 v174 v175 v176 v177 v178 v179 v180 v181 v182 v183 v184 v185 v186 v187 v188 v189 v190 v191 v192 v193 v194 v195 v196 v197 v198 v199 v200 v201 v202 v203 v204 v205 v206 v207 v208 v209 v210 v211 v212 v213 v214 v215 v216 v217 v218 v219 v220 v221 : Value} {w0 : World} {b3 b6 b12 bv cap k : Nat} {F : Nat → Value} {Z : Array Value} (hk16 : k < 16) (hZ : Z = (lay F).toArray) (h5 : F 5 = .slice (some ⟨bv, 0, none⟩) 16 cap)
    (hrow : w0.heap[b3]? = some (rowObj (lay F) 36)) (hV : Corners bv w0)
    (hat : ∀ i, i < 4 → w0.cell? ⟨b6, i, none⟩ = some (.float .f64 (fb (k.testBit i)))) (hnx : ∀ j, j < 4 → w0.cell? ⟨b12, j, none⟩ = some (.int .i16 (k ^^^ 2 ^ j : Nat)))
    (hK : ∀ (u2 u14 u15 u16 u95 u96 u97 u98 u99 u100 u101 u102 u103 u104 u105 u106 u107 u108 u109 u110 u111 u112 u113 u114 u115 u116 u117 u118 u119 u120 u121 u122 u123 u124 u125 u126 u127 u128 u129 u130 u131 u132 u133 : Value) (wx : World), Below w0.heap.size w0 wx → Q .normal ⟨#[v0, v1, u2, .pointer (some ⟨b3, 0, none⟩), v4, v5, .pointer (some ⟨b6, 0, none⟩), v7, v8, v9, v10, v11, .pointer (some ⟨b12, 0, none⟩), .int .i64 4, u14, u15, u16, v17, v18, v19, v20, v21, v22, v23, v24, v25, v26, v27, v28, v29, v30, v31, v32, v33, v34, v35, v36, v37, v38, v39, v40, v41, v42, v43, v44, v45, v46, v47, v48, v49, v50, v51, v52, v53, v54, v55, v56, v57, v58, v59, v60, v61, v62, v63, v64, v65, v66, v67, v68, v69, v70, v71, v72, v73, v74, v75, v76, v77, v78, v79, v80, v81, v82, v83, v84, v85, v86, v87, v88, v89, v90, v91, v92, v93, v94, u95, u96, u97, u98, u99, u100, u101, u102, u103, u104, u105, u106, u107, u108, u109, u110, u111, u112, u113, u114, u115, u116, u117, u118, u119, u120, u121, u122, u123, u124, u125, u126, u127, u128, u129, u130, u131, u132, u133, v134, v135, v136, v137, v138, v139, v140, v141, v142, v143, v144, v145, v146, v147, v148, v149, v150, v151, v152, v153, v154, v155, v156, v157, v158, v159, v160, v161, v162, v163, v164, v165, v166, v167, v168, v169, v170, v171, v172, v173, v174, v175, v176, v177, v178, v179, v180, v181, v182, v183, v184, v185, v186, v187, v188, v189, v190, v191, v192, v193, v194, v195, v196, v197, v198, v199, v200, v201, v202, v203, v204, v205, v206, v207, v208, v209, v210, v211, v212, v213, v214, v215, v216, v217, v218, v219, v220, v221], []⟩ wx) :
    Code.wp Tryd.prog (sub4 [1, 1, 1, 1, 1, 0, 1, 2, 3, 1, 0, 2, 1, 1, 1, 1, 1, 1, 1, 1, 1, 1, 1] (Tryd.f3.body.getD .skip)) Q ⟨#[v0, v1, v2, .pointer (some ⟨b3, 0, none⟩), v4, v5, .pointer (some ⟨b6, 0, none⟩), v7, v8, v9, v10, v11, .pointer (some ⟨b12, 0, none⟩), .int .i64 0, v14, v15, v16, v17, v18, v19, v20, v21, v22, v23, v24, v25, v26, v27, v28, v29, v30, v31, v32, v33, v34, v35, v36, v37, v38, v39, v40, v41, v42, v43, v44, v45, v46, v47, v48, v49, v50, v51, v52, v53, v54, v55, v56, v57, v58, v59, v60, v61, v62, v63, v64, v65, v66, v67, v68, v69, v70, v71, v72, v73, v74, v75, v76, v77, v78, v79, v80, v81, v82, v83, v84, v85, v86, v87, v88, v89, v90, v91, v92, v93, v94, v95, v96, v97, v98, v99, v100, v101, v102, v103, v104, v105, v106, v107, v108, v109, v110, v111, v112, v113, v114, v115, v116, v117, v118, v119, v120, v121, v122, v123, v124, v125, v126, v127, v128, v129, v130, v131, v132, v133, v134, v135, v136, v137, v138, v139, v140, v141, v142, v143, v144, v145, v146, v147, v148, v149, v150, v151, v152, v153, v154, v155, v156, v157, v158, v159, v160, v161, v162, v163, v164, v165, v166, v167, v168, v169, v170, v171, v172, v173, v174, v175, v176, v177, v178, v179, v180, v181, v182, v183, v184, v185, v186, v187, v188, v189, v190, v191, v192, v193, v194, v195, v196, v197, v198, v199, v200, v201, v202, v203, v204, v205, v206, v207, v208, v209, v210, v211, v212, v213, v214, v215, v216, v217, v218, v219, v220, v221], []⟩ w0 := by
  have HA := hide (And.intro hat hnx)
  have HR := hide (And.intro hrow (And.intro hV h5))
  have HZ := hide hZ
  obtain ⟨O, eO⟩ : ∃ O, O = rowObj (List.replicate 4 (.float .f64 0)) 28 := ⟨_, rfl⟩
  have hal : ∀ w : World, (Instr.alloc 28 true (.tuple #[])).run Tryd.prog w = .ok (.pointer (some ⟨w.heap.size, 0, none⟩)) (w.alloc O) := by rw [eO]; exact allocZ28
  have HAL := hide hal
  have HO := hide eO
  clear hat hnx hrow hV h5 hal eO hZ
  conv => arg 2; whnf
  go_wp2
  go_loopg [13] 4 (fun g s13 wr => ∃ j : Nat, s13 = .int .i64 j ∧ g + j = 4 ∧ Below w0.heap.size w0 wr)
  case atStart => exact ⟨0, rfl, rfl, Below.refl _ _⟩
  case round =>
    obtain ⟨j, rfl, hg, hb⟩ := hrel
    by_cases c : j < 4
    · have h1 := (unhide HA).2 j c
      have h1' : wr.cell? ⟨b12, j, none⟩ = some (.int .i16 (k ^^^ 2 ^ j : Nat)) := (World.cell?_of_block (w := w0) (hb.block b12 (lt_of_cell h1))).trans h1
      have ht := xor_lt ⟨k, hk16⟩ ⟨j, c⟩
      dsimp only at ht
      have hs1 := bit_same k j
      have hs2 := bit_mirror k j
      obtain ⟨t, et⟩ : ∃ t, t = k ^^^ 2 ^ j := ⟨_, rfl⟩
      rw [← et] at h1' ht hs1 hs2
      have c' : (j : Int) < 4 := by omega
      have c0 : (0 : Int) ≤ (j : Int) := by omega
      have t' : (t : Int) < 16 := by omega
      have t0 : (0 : Int) ≤ (t : Int) := by omega
      have tn : ¬ (t : Int) < 0 := by omega
      have d1 : decide ((t : Int) < 0) = false := by simp
      have d2 : decide ((16 : Int) ≤ (t : Int)) = false := by simp; omega
      have Hg := hide hg
      have rr : wr.heap[b3]? = some (rowObj (lay F) 36) := (hb.block b3 (lt_of_heap (unhide HR).1)).trans (unhide HR).1
      have vr : Corners bv wr := fun a i v ha hv => (World.cell?_of_block (w := w0) (hb.block bv (lt_of_cell ((unhide HR).2.1 a i v ha hv)))).trans ((unhide HR).2.1 a i v ha hv)
      have hca := at_any (unhide HZ) (unhide HR).2.2 ht wr vr
      obtain ⟨V, eV⟩ : ∃ V, V = (vsub t 0 4).toArray := ⟨_, rfl⟩
      rw [← eV] at hca
      have HV := hide eV
      have HC := hide (And.intro hca (And.intro rr hb))
      have hO2 : ∀ w2 : World, (w2.alloc O).heap[w2.heap.size]? = some (rowObj (List.replicate 4 (.float .f64 0)) 28) := fun w2 => by rw [← unhide HO]; exact heap_alloc_last _ _
      have HO2 := hide hO2
      have HSZ := hide (And.intro (show (Tryd.prog.info? 28).map (·.size) = some (vsub t 0 4).length from sizeZ28) (show (List.replicate 4 (Value.float .f64 0)).length = (vsub t 0 4).length from rfl))
      clear hO2
      have Hs := hide (And.intro hs1 hs2)
      clear hg h1 et rr vr hca hb eV hs1 hs2
      go_upto_region 41 with fail
      go_upto_block 8 with (first | ((with_reducible refine wl_load (b3 := b3) (f := F) ?hx (unhide HZ) (unhide HC).2.1 ?_); (case hx => rfl)) | (go_at_call 8; refine (unhide HC).1.mono ?_; rintro e w2 ⟨rfl, hb2⟩) | (with_reducible refine wl_allocT (unhide HAL _) ?_) | ((with_reducible refine wl_storeT (T := 28) (b := w2.heap.size) ?hx ?hy (unhide HV) (vsub_one t 0 4) (unhide HSZ).1 (unhide HO2 w2) (unhide HSZ).2 ?_); (case hx => rfl); (case hy => rfl); intro w3 hw3))
      have z2 := hb2.size
      have h3b : Below w0.heap.size w0 w3 := (unhide HC).2.2.trans ((hb2.mono (unhide HC).2.2.size).trans ((((Below.refl _ _).alloc (Nat.le_trans (unhide HC).2.2.size z2) _)).trans (hw3.2.toBelow (Nat.le_trans (unhide HC).2.2.size z2) (by simp; have := (unhide HC).2.2.size; omega))))
      have hat3 : ∀ i, i < 4 → w3.cell? ⟨b6, i, none⟩ = some (.float .f64 (fb (k.testBit i))) := fun i hi => (World.cell?_of_block (w := w0) (h3b.block b6 (lt_of_cell ((unhide HA).1 i hi)))).trans ((unhide HA).1 i hi)
      have hot3 : ∀ i, i < 4 → w3.cell? ⟨w2.heap.size, i, none⟩ = some (.float .f64 (fb (t.testBit i))) := fun i hi => by
        have h := hw3.1
        rw [unhide HV] at h
        exact row_cell (cs := vsub t 0 4) (t := 28) h i _ (vsub_at t i hi)
      have H3 := hide h3b
      clear hw3 h3b z2 hb2
      refine mirrorLoop (t := t) (k := k) c hat3 hot3 (fun i _ => (unhide Hs).1 i) (unhide Hs).2 ?_
      intro u2 u112 u113 u114 u115 u116 u117 u118 u119 u120 u121 u122 u123 u124 u125 u126 u127 u128 u129 u130 u131 u132 u133 n
      dsimp only
      clear hat3 hot3
      go_wp2
      go_roundg (gk - 1)
      case measure => have := unhide Hg; omega
      case rel => exact ⟨j + 1, by go_num, by have := unhide Hg; omega, below_drewN (unhide H3) n⟩
    · obtain rfl : j = 4 := by omega
      have H2 := hide hb
      clear hg hb
      go_wp2
      first
        | exact unhide H2
        | (apply hK; exact unhide H2)

end Go.Proofs.Qxb6614855aDoor
