/- The first law: the sixteen corners. -/
import Derived.Test.Qxb6614855aDoorF3d
import Derived.Test.Qxb6614855aDoorHR3
import Derived.Test.Qxb6614855aDoorFA
namespace Go.Proofs.Qxb6614855aDoor
open Go.RowKit

/-- A cell lies in block b3, its planes in bp, its corners in bv: all below B. -/
structure Cell (F : Nat → Value) (b3 bp bv B : Nat) (w : World) : Prop where
  l3 : b3 < B
  lp : bp < B
  lv : bv < B
  row : w.heap[b3]? = some (rowObj (lay F) 36)
  pls : w.heap[bp]? = some (rowObj planesL 61)
  crn : Corners bv w
theorem Cell.below {F : Nat → Value} {b3 bp bv B : Nat} {w w' : World} (h : Cell F b3 bp bv B w) (hb : Below B w w') : Cell F b3 bp bv B w' :=
  ⟨h.l3, h.lp, h.lv, (hb.block _ h.l3).trans h.row, (hb.block _ h.lp).trans h.pls, fun k i v hk hv => (World.cell?_of_block (w := w) (hb.block _ h.lv)).trans (h.crn k i v hk hv)⟩

/-- The load of a cell; of another row. -/
theorem load_at36 {F : Nat → Value} {Z : Array Value} (hZ : Z = (lay F).toArray) {b3 : Nat} {w : World} (h : w.heap[b3]? = some (rowObj (lay F) 36)) : (Instr.loadAt 36 (.pointer (some ⟨b3, 0, none⟩))).run Tryd.prog w = .ok (.agg Z) w := by
  rw [hZ]
  exact run_loadAt_mid w b3 0 36 (lay F) _ (fun j v hj => by rw [Nat.zero_add]; exact row_cell h j v hj) Tryd.underlying36 rfl (by rw [size36, lay_len])
theorem load_atT {T t : TypeId} {d : TypeDesc} {cs : List Value} (hu : Tryd.prog.underlying T = some d) (hd : d.isRow = true) (hs : (Tryd.prog.info? T).map (·.size) = some cs.length) {b : Nat} {w : World} (h : w.heap[b]? = some (rowObj cs t)) : (Instr.loadAt T (.pointer (some ⟨b, 0, none⟩))).run Tryd.prog w = .ok (.agg cs.toArray) w :=
  run_loadAt_mid w b 0 T cs d (fun j v hj => by rw [Nat.zero_add]; exact row_cell h j v hj) hu hd hs

/-- The corners seen so far. -/
def seenL (k : Nat) : List Value := (List.range 16).map fun i => .bool (decide (i < k))
theorem seen_at (k i : Nat) (h : i < 16) : (seenL k)[i]? = some (.bool (decide (i < k))) := by
  unfold seenL
  rw [List.getElem?_map, List.getElem?_range h]
  rfl
theorem seen_set (k : Nat) (hk : k < 16) : (seenL k).set k (.bool true) = seenL (k + 1) := by
  apply List.ext_getElem?
  intro i
  by_cases hi : i < 16
  · rw [seen_at _ _ hi]
    by_cases e : k = i
    · subst e
      rw [List.getElem?_set_self (by simp [seenL]; exact hk)]
      simp
    · rw [List.getElem?_set_ne e, seen_at _ _ hi]
      congr 2
      have : (i < k) ↔ (i < k + 1) := by omega
      simp only [this]
  · rw [List.getElem?_eq_none (by simp [seenL]; omega), List.getElem?_eq_none (by simp [seenL]; omega)]

theorem want_sub (k : Nat) : wantL (mask k) = vsub k 4 3 := rfl
theorem next_at (k : Nat) : ∀ j, j < 4 → (vsub k 8 4)[j]? = some (.int .i16 (k ^^^ 2 ^ j : Nat))
  | 0, _ => rfl
  | 1, _ => rfl
  | 2, _ => rfl
  | 3, _ => rfl
  | _ + 4, h => by omega

set_option maxRecDepth 100000 in
set_option maxHeartbeats 8000000 in
theorem cornersLoop {K : Act → World → Prop} {Q : Exit → Act → World → Prop} {v0 v1 v2 v6 v7 v8 v9 v10 v11 v12 v13 v14 v15 v16 v17 v18 v19 v20 v21 v22 v23 v24 v25 v26 v27 v28 v29 v30 v31 v32 v33 v34 v35 v36 v37 v38 v39 v40 v41 v42 v43 v44 v45 v46 v47 v48 v49 v50 v51 v52 v53 v54 v55 v56 v57 v58 v59 v60 v61 v62 v63 v64 v65 v66 v67 v68 v69 v70 v71 v72 v73 v74 v75 v76 v77 v78 v79 v80 v81 v82 v83 v84 v85 v86 v87 v88 v89 v90 v91 v92 v93 v94 v95 v96 v97 v98 v99 v100 v101 v102 v103 v104 v105 v106 v107 v108 v109 v110 v111 v112 v113 v114 v115 v116 v117 v118 v119 v120 v121 v122 v123 v124 v125 v126 v127 v128 v129 v130 v131 v132 v133 v134 v135 v136 v137 v138 v139 v140 v141 v142 v143 v144 v145 v146 v147 v148 v149 v150 v151 v152 v153 v154 v155 v156 v157 v158 v159 v160 v161 v162 v163 v164 v165 v166 v167 v168 v169 v170 v171 v172 v173 v174 v175 v176 v177 v178 v179 v180 v181 v182 v183 v184 v185 v186 v187 v188 v189 v190 v191 v192 v193 v194 v195 v196 v197 v198 v199 v200 v201 v202 v203 v204 v205 v206 v207 v208 v209 v210 v211 v212 v213 v214 v215 v216 v217 v218 v219 v220 v221 : Value} {w0 : World} {b3 b4 bp bv cap : Nat} {F : Nat → Value} {Z : Array Value} (hZ : Z = (lay F).toArray) (h5 : F 5 = .slice (some ⟨bv, 0, none⟩) 16 cap)
    (hc : Cell F b3 bp bv b4 w0) (hrow : w0.heap[b4]? = some (rowObj (seenL 0) 40))
    (hK : ∀ (u2 u6 u7 u8 u9 u10 u11 u12 u13 u14 u15 u16 u35 u36 u37 u38 u39 u40 u41 u42 u43 u44 u45 u46 u47 u48 u49 u50 u51 u52 u53 u54 u55 u56 u57 u58 u59 u60 u61 u62 u63 u64 u65 u66 u67 u68 u69 u70 u71 u72 u73 u74 u75 u76 u77 u78 u79 u80 u81 u82 u83 u84 u85 u86 u87 u88 u89 u90 u91 u92 u93 u94 u95 u96 u97 u98 u99 u100 u101 u102 u103 u104 u105 u106 u107 u108 u109 u110 u111 u112 u113 u114 u115 u116 u117 u118 u119 u120 u121 u122 u123 u124 u125 u126 u127 u128 u129 u130 u131 u132 u133 : Value) (wx : World), Below b4 w0 wx → K ⟨#[v0, v1, u2, .pointer (some ⟨b3, 0, none⟩), .pointer (some ⟨b4, 0, none⟩), .int .i64 16, u6, u7, u8, u9, u10, u11, u12, u13, u14, u15, u16, v17, v18, v19, v20, v21, v22, v23, v24, v25, v26, v27, v28, v29, v30, v31, v32, v33, v34, u35, u36, u37, u38, u39, u40, u41, u42, u43, u44, u45, u46, u47, u48, u49, u50, u51, u52, u53, u54, u55, u56, u57, u58, u59, u60, u61, u62, u63, u64, u65, u66, u67, u68, u69, u70, u71, u72, u73, u74, u75, u76, u77, u78, u79, u80, u81, u82, u83, u84, u85, u86, u87, u88, u89, u90, u91, u92, u93, u94, u95, u96, u97, u98, u99, u100, u101, u102, u103, u104, u105, u106, u107, u108, u109, u110, u111, u112, u113, u114, u115, u116, u117, u118, u119, u120, u121, u122, u123, u124, u125, u126, u127, u128, u129, u130, u131, u132, u133, v134, v135, v136, v137, v138, v139, v140, v141, v142, v143, v144, v145, v146, v147, v148, v149, v150, v151, v152, v153, v154, v155, v156, v157, v158, v159, v160, v161, v162, v163, v164, v165, v166, v167, v168, v169, v170, v171, v172, v173, v174, v175, v176, v177, v178, v179, v180, v181, v182, v183, v184, v185, v186, v187, v188, v189, v190, v191, v192, v193, v194, v195, v196, v197, v198, v199, v200, v201, v202, v203, v204, v205, v206, v207, v208, v209, v210, v211, v212, v213, v214, v215, v216, v217, v218, v219, v220, v221], []⟩ wx) :
    Code.wp Tryd.prog (sub4 [1, 1, 1, 1, 1, 0, 1] (Tryd.f3.body.getD .skip)) (Exit.then K Q) ⟨#[v0, v1, v2, .pointer (some ⟨b3, 0, none⟩), .pointer (some ⟨b4, 0, none⟩), .int .i64 0, v6, v7, v8, v9, v10, v11, v12, v13, v14, v15, v16, v17, v18, v19, v20, v21, v22, v23, v24, v25, v26, v27, v28, v29, v30, v31, v32, v33, v34, v35, v36, v37, v38, v39, v40, v41, v42, v43, v44, v45, v46, v47, v48, v49, v50, v51, v52, v53, v54, v55, v56, v57, v58, v59, v60, v61, v62, v63, v64, v65, v66, v67, v68, v69, v70, v71, v72, v73, v74, v75, v76, v77, v78, v79, v80, v81, v82, v83, v84, v85, v86, v87, v88, v89, v90, v91, v92, v93, v94, v95, v96, v97, v98, v99, v100, v101, v102, v103, v104, v105, v106, v107, v108, v109, v110, v111, v112, v113, v114, v115, v116, v117, v118, v119, v120, v121, v122, v123, v124, v125, v126, v127, v128, v129, v130, v131, v132, v133, v134, v135, v136, v137, v138, v139, v140, v141, v142, v143, v144, v145, v146, v147, v148, v149, v150, v151, v152, v153, v154, v155, v156, v157, v158, v159, v160, v161, v162, v163, v164, v165, v166, v167, v168, v169, v170, v171, v172, v173, v174, v175, v176, v177, v178, v179, v180, v181, v182, v183, v184, v185, v186, v187, v188, v189, v190, v191, v192, v193, v194, v195, v196, v197, v198, v199, v200, v201, v202, v203, v204, v205, v206, v207, v208, v209, v210, v211, v212, v213, v214, v215, v216, v217, v218, v219, v220, v221], []⟩ w0 := by
  have HC := hide (And.intro hc (And.intro hrow h5))
  have HZ := hide hZ
  obtain ⟨O, eO⟩ : ∃ O, O = rowObj (List.replicate 4 (.float .f64 0)) 28 := ⟨_, rfl⟩
  have hal : ∀ w : World, (Instr.alloc 28 true (.tuple #[])).run Tryd.prog w = .ok (.pointer (some ⟨w.heap.size, 0, none⟩)) (w.alloc O) := by rw [eO]; exact allocZ28
  have HAL := hide hal
  have HO := hide eO
  obtain ⟨N, eN⟩ : ∃ N, N = rowObj (List.replicate 4 (.int .i16 0)) 45 := ⟨_, rfl⟩
  have haln : ∀ w : World, (Instr.alloc 45 true (.tuple #[])).run Tryd.prog w = .ok (.pointer (some ⟨w.heap.size, 0, none⟩)) (w.alloc N) := by rw [eN]; exact allocZ45
  have HALN := hide haln
  have HN := hide eN
  clear hc hrow h5 hZ hal eO haln eN
  conv => arg 2; whnf
  go_wp2
  go_loopg [5] 16 (fun g s5 wr => ∃ k : Nat, s5 = .int .i64 k ∧ g + k = 16 ∧ wr.heap[b4]? = some (rowObj (seenL k) 40) ∧ Below b4 w0 wr)
  case atStart => exact ⟨0, rfl, rfl, (unhide HC).2.1, Below.refl _ _⟩
  case round =>
    obtain ⟨k, rfl, hg, hr, hb⟩ := hrel
    by_cases c : k < 16
    · have c' : (k : Int) < 16 := by omega
      have c0 : (0 : Int) ≤ (k : Int) := by omega
      have Hg := hide hg
      have cr := (unhide HC).1.below hb
      have hca := at_any (unhide HZ) (unhide HC).2.2 c wr cr.crn
      obtain ⟨V, eV⟩ : ∃ V, V = (vsub k 0 4).toArray := ⟨_, rfl⟩
      rw [← eV] at hca
      have HV := hide eV
      have l4 := lt_of_heap hr
      have H1 := hide (And.intro hca (And.intro cr (And.intro hb hr)))
      have HO2 := hide (fun w2 : World => (show (w2.alloc O).heap[w2.heap.size]? = some (rowObj (List.replicate 4 (.float .f64 0)) 28) from by rw [← unhide HO]; exact heap_alloc_last _ _))
      have HSZ := hide (And.intro (show (Tryd.prog.info? 28).map (·.size) = some (vsub k 0 4).length from sizeZ28) (show (List.replicate 4 (Value.float .f64 0)).length = (vsub k 0 4).length from rfl))
      clear hg hca cr eV hb hr
      go_upto_block 2 with (first | ((with_reducible refine wl_load (b3 := b3) (f := F) ?hx (unhide HZ) (unhide H1).2.1.row ?_); (case hx => rfl)) | (go_at_call 8; refine (unhide H1).1.mono ?_; rintro e w2 ⟨rfl, hb2⟩) | (with_reducible refine wl_allocT (unhide HAL _) ?_) | ((with_reducible refine wl_storeT (T := 28) (b := w2.heap.size) ?hx ?hy (unhide HV) (vsub_one k 0 4) (unhide HSZ).1 (unhide HO2 w2) (unhide HSZ).2 ?_); (case hx => rfl); (case hy => rfl); intro w3 hw3))
      have z2 := hb2.size
      have b3w : Below wr.heap.size wr w3 := hb2.trans (((Below.refl _ _).alloc z2 _).trans (hw3.2.toBelow z2 (by simp; omega)))
      have s3 : w2.heap.size < w3.heap.size := by have := hw3.2.size; simp at this; omega
      have hat3 : ∀ i, i < 4 → w3.cell? ⟨w2.heap.size, i, none⟩ = some (.float .f64 (fb (k.testBit i))) := fun i hi => by
        have h := hw3.1
        rw [unhide HV] at h
        exact row_cell (cs := vsub k 0 4) (t := 28) h i _ (vsub_at k i hi)
      have r3 : w3.heap[b4]? = some (rowObj (seenL k) 40) := (b3w.block b4 l4).trans (unhide H1).2.2.2
      obtain ⟨b6, e6⟩ : ∃ b6, b6 = w2.heap.size := ⟨_, rfl⟩
      rw [← e6] at hat3 s3 z2 ⊢
      have H3 := hide (And.intro b3w r3)
      clear hw3 hb2 e6 b3w r3
      refine signsLoop c hat3 ?_
      intro u2 u42 u43 u44 u45 u46 u47 u48 u49 u50 u51 u52 u53 u54 u55 u56 u57
      dsimp only
      have cs := row_cell (unhide H3).2 k _ (seen_at k k c)
      have ed : decide (k < k) = false := by simp
      rw [ed] at cs
      have fs := row_free (unhide H3).2 k
      have ss := row_set (unhide H3).2 k (.bool true)
      rw [seen_set k c] at ss
      have HS4 := hide (And.intro ss hat3)
      clear ss ed hat3
      go_upto_region 23 with fail
      obtain ⟨W8, e8⟩ : ∃ W8, W8 = (w3.setCell ⟨b4, k, none⟩ (.bool true)).alloc (.cells #[Value.int .u32 0, Value.int .u32 0, Value.int .u32 0] 42) := ⟨_, rfl⟩
      rw [← e8]
      have zs : (w3.setCell ⟨b4, k, none⟩ (.bool true)).heap.size = w3.heap.size := by simp [World.setCell]
      have hw9 : W8.heap[w3.heap.size]? = some (rowObj (wantL 0) 42) := by
        rw [e8, ← zs]
        exact heap_alloc_last _ _
      have z8 : W8.heap.size = w3.heap.size + 1 := by rw [e8]; simp [World.setCell]
      have k8 : Keep b4 w3 W8 := by rw [e8]; exact ((Keep.refl _ _).set _ _).alloc _
      have r8 : W8.heap[b4]? = some (rowObj (seenL (k + 1)) 40) := by
        rw [e8, Below.heap_alloc _ _ _ (by rw [zs]; omega)]
        exact (unhide HS4).1
      have bw := (unhide H1).2.2.1.size
      have zb3 := (unhide H3).1.size
      have b8 : Below b4 w0 W8 := (unhide H1).2.2.1.trans (((unhide H3).1.mono (by omega)).trans (k8.toBelow (Nat.le_refl _) (by omega)))
      have hat8 : ∀ i, i < 4 → W8.cell? ⟨b6, i, none⟩ = some (.float .f64 (fb (k.testBit i))) := fun i hi => (World.cell?_of_block (w := w3) (k8.block b6 s3 (by omega))).trans ((unhide HS4).2 i hi)
      have H8 := hide (And.intro b8 (And.intro r8 hat8))
      clear k8 b8 r8 e8 cs fs HS4 zs
      obtain ⟨b9, e9⟩ : ∃ b9, b9 = w3.heap.size := ⟨_, rfl⟩
      rw [← e9] at hw9 ⊢
      go_upto_block 4 with fail
      refine wantLoop hat8 (by omega) hw9 ?_
      intro u11 u63 u64 u65 u66 u67 u68 u69 u70 u71 u72 u73 u74 u75 u76 u77 u78 u79 u80 wx hx
      dsimp only
      obtain ⟨rx, kx⟩ := hx
      rw [want_sub] at rx
      have zx := kx.size
      have bx : Below b4 w0 wx := (unhide H8).1.trans (kx.toBelow (by omega) (by omega))
      have r4x : wx.heap[b4]? = some (rowObj (seenL (k + 1)) 40) := (kx.block b4 (by omega) (by omega)).trans (unhide H8).2.1
      have hatx : ∀ i, i < 4 → wx.cell? ⟨b6, i, none⟩ = some (.float .f64 (fb (k.testBit i))) := fun i hi => (World.cell?_of_block (w := W8) (kx.block b6 (by omega) (by omega))).trans ((unhide H8).2.2 i hi)
      have cx := (unhide HC).1.below bx
      have hlx : b4 < wx.heap.size := by omega
      have HX := hide (And.intro (And.intro rx (And.intro bx r4x)) (And.intro hatx cx))
      clear rx kx bx r4x hatx cx hw9 hat8
      go_upto_region 30 with fail
      have cb : ∀ w, Below wx.heap.size wx w → Cell F b3 bp bv b4 w := fun w h => (unhide HX).2.2.below (h.mono (Nat.le_of_lt hlx))
      refine reg_f3_30 (S := fun w => Below wx.heap.size wx w) (P3 := .pointer (some ⟨b3, 0, none⟩)) (P5 := .int .i64 k) (P9 := .pointer (some ⟨b9, 0, none⟩)) (L36_3 := .agg Z) (L42_9 := .agg (vsub k 4 3).toArray) (V83 := .agg (vsub k 4 3).toArray) rfl rfl rfl rfl (fun w h => h.drew)
        (fun w h => load_at36 (unhide HZ) (cb w h).row)
        (fun w h => load_atT (t := 42) (cs := vsub k 4 3) Tryd.underlying42 rfl sizeZ42 ((h.block b9 (lt_of_heap (unhide HX).1.1)).trans (unhide HX).1.1))
        (fun w h => (vplanes_any (unhide HZ) (unhide HC).2.2 c w (cb w h).crn).mono (fun e w' he => ⟨he.1, h.trans (he.2.mono h.size)⟩))
        (fun w => guard42 _ _ _ _ w) (fun w => neq42 w k c) (Below.refl _ _) ?_
      intro wy hy
      have hy' : Below wx.heap.size wx wy := hy
      simp only [Act.put, List.setIfInBounds_toArray, List.set_cons_zero, List.set_cons_succ]
      have cy := cb wy hy'
      have hor := orthant_any (unhide HZ) (unhide HC).2.2 c wy cy.crn
      have HY := hide (And.intro hor (And.intro cy hy'))
      obtain ⟨Y, eY⟩ : ∃ Y, Y = (vsub k 4 3).toArray := ⟨_, rfl⟩
      rw [← eY]
      clear hor cy hy hy' cb eY
      go_upto_region 34 with (first | ((with_reducible refine wl_load (b3 := b3) (f := F) ?hx (unhide HZ) (unhide HY).2.1.row ?_); (case hx => rfl)) | (go_at_call 10; refine (unhide HY).1.mono ?_; rintro e wo ⟨rfl, hbo⟩))
      have bo : Below wx.heap.size wx wo := (unhide HY).2.2.trans (hbo.mono (unhide HY).2.2.size)
      have co : Cell F b3 bp bv b4 wo := (unhide HX).2.2.below (bo.mono (Nat.le_of_lt hlx))
      have hnx := next_any (unhide HZ) (unhide HC).2.2 c wo co.crn
      obtain ⟨X, eX⟩ : ∃ X, X = (vsub k 8 4).toArray := ⟨_, rfl⟩
      rw [← eX] at hnx
      have HX2 := hide eX
      have HN1 := hide (And.intro hnx (And.intro co bo))
      have HN2 := hide (fun w2 : World => (show (w2.alloc N).heap[w2.heap.size]? = some (rowObj (List.replicate 4 (.int .i16 0)) 45) from by rw [← unhide HN]; exact heap_alloc_last _ _))
      have HSZ2 := hide (And.intro (show (Tryd.prog.info? 45).map (·.size) = some (vsub k 8 4).length from sizeZ45) (show (List.replicate 4 (Value.int .i16 0)).length = (vsub k 8 4).length from rfl))
      clear hnx eX co bo hbo
      go_upto_block 6 with (first | ((with_reducible refine wl_load (b3 := b3) (f := F) ?hx (unhide HZ) (unhide HN1).2.1.row ?_); (case hx => rfl)) | (go_at_call 11; refine (unhide HN1).1.mono ?_; rintro e w5 ⟨rfl, hb5⟩) | (with_reducible refine wl_allocT (unhide HALN _) ?_) | ((with_reducible refine wl_storeT (T := 45) (b := w5.heap.size) ?hx ?hy (unhide HX2) (vsub_one k 8 4) (unhide HSZ2).1 (unhide HN2 w5) (unhide HSZ2).2 ?_); (case hx => rfl); (case hy => rfl); intro w6 hw6))
      have z5 := hb5.size
      have zo := (unhide HN1).2.2.size
      have b6w : Below wo.heap.size wo w6 := hb5.trans (((Below.refl _ _).alloc z5 _).trans (hw6.2.toBelow z5 (by simp; omega)))
      have bx6 : Below wx.heap.size wx w6 := (unhide HN1).2.2.trans (b6w.mono zo)
      have c6 : Cell F b3 bp bv b4 w6 := (unhide HX).2.2.below (bx6.mono (Nat.le_of_lt hlx))
      have hat6 : ∀ i, i < 4 → w6.cell? ⟨b6, i, none⟩ = some (.float .f64 (fb (k.testBit i))) := fun i hi => (World.cell?_of_block (w := wx) (bx6.block b6 (by omega))).trans ((unhide HX).2.1 i hi)
      have hnx6 : ∀ j, j < 4 → w6.cell? ⟨w5.heap.size, j, none⟩ = some (.int .i16 (k ^^^ 2 ^ j : Nat)) := fun j hj => by
        have h := hw6.1
        rw [unhide HX2] at h
        exact row_cell (cs := vsub k 8 4) (t := 45) h j _ (next_at k j hj)
      have H6 := hide bx6
      refine nextLoop c (unhide HZ) (unhide HC).2.2 c6.row c6.crn hat6 hnx6 ?_
      clear bx6 c6 hat6 hnx6 hw6 hb5 b6w
      intro u2 u14 u15 u16 u95 u96 u97 u98 u99 u100 u101 u102 u103 u104 u105 u106 u107 u108 u109 u110 u111 u112 u113 u114 u115 u116 u117 u118 u119 u120 u121 u122 u123 u124 u125 u126 u127 u128 u129 u130 u131 u132 u133 wz hz
      have bz : Below wx.heap.size wx wz := (unhide H6).trans (hz.mono (unhide H6).size)
      have rz : wz.heap[b4]? = some (rowObj (seenL (k + 1)) 40) := (bz.block b4 hlx).trans (unhide HX).1.2.2
      have HZZ := hide (And.intro rz ((unhide HX).1.2.1.trans (bz.mono (Nat.le_of_lt hlx))))
      clear hz bz rz
      dsimp only
      go_wp2
      go_roundg (gk - 1)
      case measure => have := unhide Hg; omega
      case rel => exact ⟨k + 1, by go_num, by have := unhide Hg; omega, (unhide HZZ).1, (unhide HZZ).2⟩
    · obtain rfl : k = 16 := by omega
      have H2 := hide hb
      clear hg hb hr
      go_wp2
      first
        | exact unhide H2
        | (apply hK; exact unhide H2)

end Go.Proofs.Qxb6614855aDoor
