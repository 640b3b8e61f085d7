/- The first law: census, radii, extents; the counts; the planes. -/
import Derived.Test.Qxb6614855aDoorF3e
namespace Go.Proofs.Qxb6614855aDoor
open Go.RowKit

/-- A guarded load of the cell. -/
theorem wl_loadG {ops : Array Oper} {rest : List Oper} {dst : Option Tmp} {x : Operand} {tp : TypeId} {ps : String} {af} {j d : Nat} {b : Bool} {a : Act} {w : World} {Q : Exit → Act → World → Prop} {b3 : Nat} {f : Nat → Value} {Z : Array Value}
    (hx : a.eval x = .pointer (some ⟨b3, 0, none⟩)) (hd : ((ops[j]?).bind (·.dst)) = some d) (hs : d < a.tmps.size) (he : a.eval (.tmp d) = .bool b) (hZ : Z = (lay f).toArray) (hrow : w.heap[b3]? = some (rowObj (lay f) 36))
    (h : wpList Tryd.prog ops Q rest (a.put dst (.agg Z)) w) : wpList Tryd.prog ops Q (Oper.mk dst (.load 36 x) tp ps af (some (j, b)) :: rest) a w :=
  wpList_step fun _ hK => by
    rw [if_pos (wanted_guard rfl hd hs he)]
    with_reducible exact load_whole hx hZ hrow (hK _ _ h)

theorem rep_at {n : Nat} {v : Value} (i : Nat) (h : i < n) : (List.replicate n v)[i]? = some v := by
  rw [List.getElem?_replicate, if_pos h]
theorem eq31 : (FloatKind.f64.format.order 4746794007248502784 4746794007248502784 == some .eq) = true := by kernel_rfl
theorem eq64 : (FloatKind.f64.format.order 4895412794951729152 4895412794951729152 == some .eq) = true := by kernel_rfl

set_option maxRecDepth 100000 in
set_option maxHeartbeats 4000000 in
theorem extentLoop {Q : Exit → Act → World → Prop} {v0 v1 v2 v3 v4 v5 v6 v7 v8 v9 v10 v11 v12 v13 v14 v15 v16 v17 v19 v22 v23 v24 v25 v26 v27 v28 v29 v30 v31 v32 v33 v34 v35 v36 v37 v38 v39 v40 v41 v42 v43 v44 v45 v46 v47 v48 v49 v50 v51 v52 v53 v54 v55 v56 v57 v58 v59 v60 v61 v62 v63 v64 v65 v66 v67 v68 v69 v70 v71 v72 v73 v74 v75 v76 v77 v78 v79 v80 v81 v82 v83 v84 v85 v86 v87 v88 v89 v90 v91 v92 v93 v94 v95 v96 v97 v98 v99 v100 v101 v102 v103 v104 v105 v106 v107 v108 v109 v110 v111 v112 v113 v114 v115 v116 v117 v118 v119 v120 v121 v122 v123 v124 v125 v126 v127 v128 v129 v130 v131 v132 v133 v134 v135 v136 v137 v138 v139 v140 v141 v142 v143 v144 v145 v146 v147 v148 v149 v150 v151 v152 v153 v154 v155 v156 v157 v158 v159 v160 v161 v162 v163 v164 v165 v166 v167 v168 v169 v170 v171 v172 v173 v174 v175 v176 v177 v178 v179 v180 v181 v182 v183 v184 v185 v186 v187 v188 v189 v190 v191 v192 v193 v194 v195 v196 v197 v198 v199 v200 v201 v202 v203 v204 v205 v206 v207 v208 v209 v210 v211 v212 v213 v214 v215 v216 v217 v218 v219 v220 v221 : Value} {w0 : World} {b18 o : Nat} (ho16 : o < 16) (hrow : w0.heap[b18]? = some (rowObj (List.replicate 64 (.float .f64 4746794007248502784)) 29))
    (hK : ∀ (u2 u153 u154 u155 u156 u157 u158 u159 u160 u161 u162 u163 : Value), Q .normal ⟨#[v0, v1, u2, v3, v4, v5, v6, v7, v8, v9, v10, v11, v12, v13, v14, v15, v16, v17, .pointer (some ⟨b18, 0, none⟩), v19, .int .i64 o, .int .i64 4, v22, v23, v24, v25, v26, v27, v28, v29, v30, v31, v32, v33, v34, v35, v36, v37, v38, v39, v40, v41, v42, v43, v44, v45, v46, v47, v48, v49, v50, v51, v52, v53, v54, v55, v56, v57, v58, v59, v60, v61, v62, v63, v64, v65, v66, v67, v68, v69, v70, v71, v72, v73, v74, v75, v76, v77, v78, v79, v80, v81, v82, v83, v84, v85, v86, v87, v88, v89, v90, v91, v92, v93, v94, v95, v96, v97, v98, v99, v100, v101, v102, v103, v104, v105, v106, v107, v108, v109, v110, v111, v112, v113, v114, v115, v116, v117, v118, v119, v120, v121, v122, v123, v124, v125, v126, v127, v128, v129, v130, v131, v132, v133, v134, v135, v136, v137, v138, v139, v140, v141, v142, v143, v144, v145, v146, v147, v148, v149, v150, v151, v152, u153, u154, u155, u156, u157, u158, u159, u160, u161, u162, u163, v164, v165, v166, v167, v168, v169, v170, v171, v172, v173, v174, v175, v176, v177, v178, v179, v180, v181, v182, v183, v184, v185, v186, v187, v188, v189, v190, v191, v192, v193, v194, v195, v196, v197, v198, v199, v200, v201, v202, v203, v204, v205, v206, v207, v208, v209, v210, v211, v212, v213, v214, v215, v216, v217, v218, v219, v220, v221], []⟩ w0) :
    Code.wp Tryd.prog (sub4 [1, 1, 1, 1, 1, 1, 1, 1, 1, 0, 1, 2, 3, 1, 0, 2, 1, 1, 1] (Tryd.f3.body.getD .skip)) Q ⟨#[v0, v1, v2, v3, v4, v5, v6, v7, v8, v9, v10, v11, v12, v13, v14, v15, v16, v17, .pointer (some ⟨b18, 0, none⟩), v19, .int .i64 o, .int .i64 0, v22, v23, v24, v25, v26, v27, v28, v29, v30, v31, v32, v33, v34, v35, v36, v37, v38, v39, v40, v41, v42, v43, v44, v45, v46, v47, v48, v49, v50, v51, v52, v53, v54, v55, v56, v57, v58, v59, v60, v61, v62, v63, v64, v65, v66, v67, v68, v69, v70, v71, v72, v73, v74, v75, v76, v77, v78, v79, v80, v81, v82, v83, v84, v85, v86, v87, v88, v89, v90, v91, v92, v93, v94, v95, v96, v97, v98, v99, v100, v101, v102, v103, v104, v105, v106, v107, v108, v109, v110, v111, v112, v113, v114, v115, v116, v117, v118, v119, v120, v121, v122, v123, v124, v125, v126, v127, v128, v129, v130, v131, v132, v133, v134, v135, v136, v137, v138, v139, v140, v141, v142, v143, v144, v145, v146, v147, v148, v149, v150, v151, v152, v153, v154, v155, v156, v157, v158, v159, v160, v161, v162, v163, v164, v165, v166, v167, v168, v169, v170, v171, v172, v173, v174, v175, v176, v177, v178, v179, v180, v181, v182, v183, v184, v185, v186, v187, v188, v189, v190, v191, v192, v193, v194, v195, v196, v197, v198, v199, v200, v201, v202, v203, v204, v205, v206, v207, v208, v209, v210, v211, v212, v213, v214, v215, v216, v217, v218, v219, v220, v221], []⟩ w0 := by
  have HR := hide hrow
  clear hrow
  conv => arg 2; whnf
  go_wp2
  go_loopg [21] 4 (fun g s21 wr => ∃ j : Nat, s21 = .int .i64 j ∧ g + j = 4 ∧ wr = w0)
  case atStart => exact ⟨0, rfl, rfl, rfl⟩
  case round =>
    obtain ⟨j, rfl, hg, rfl⟩ := hrel
    by_cases c : j < 4
    · have h1 := row_cell (unhide HR) (o * 4 + j) _ (rep_at (o * 4 + j) (by omega))
      have he := eq31
      obtain ⟨x, ex⟩ : ∃ x, x = 4746794007248502784 := ⟨_, rfl⟩
      have c' : (j : Int) < 4 := by omega
      have c0 : (0 : Int) ≤ (j : Int) := by omega
      have o' : (o : Int) < 16 := by omega
      have o0 : (0 : Int) ≤ (o : Int) := by omega
      have Hg := hide hg
      clear hg
      go_wp2
      go_roundg (gk - 1)
      case measure => have := unhide Hg; omega
      case rel => exact ⟨j + 1, by go_num, by have := unhide Hg; omega, rfl⟩
    · obtain rfl : j = 4 := by omega
      go_wp2
      all_goals apply hK

set_option maxRecDepth 100000 in
set_option maxHeartbeats 4000000 in
theorem orthantsLoop {K : Act → World → Prop} {Q : Exit → Act → World → Prop} {v0 v1 v2 v3 v4 v5 v6 v7 v8 v9 v10 v11 v12 v13 v14 v15 v16 v21 v22 v23 v24 v25 v26 v27 v28 v29 v30 v31 v32 v33 v34 v35 v36 v37 v38 v39 v40 v41 v42 v43 v44 v45 v46 v47 v48 v49 v50 v51 v52 v53 v54 v55 v56 v57 v58 v59 v60 v61 v62 v63 v64 v65 v66 v67 v68 v69 v70 v71 v72 v73 v74 v75 v76 v77 v78 v79 v80 v81 v82 v83 v84 v85 v86 v87 v88 v89 v90 v91 v92 v93 v94 v95 v96 v97 v98 v99 v100 v101 v102 v103 v104 v105 v106 v107 v108 v109 v110 v111 v112 v113 v114 v115 v116 v117 v118 v119 v120 v121 v122 v123 v124 v125 v126 v127 v128 v129 v130 v131 v132 v133 v134 v135 v136 v137 v138 v139 v140 v141 v142 v143 v144 v145 v146 v147 v148 v149 v150 v151 v152 v153 v154 v155 v156 v157 v158 v159 v160 v161 v162 v163 v164 v165 v166 v167 v168 v169 v170 v171 v172 v173 v174 v175 v176 v177 v178 v179 v180 v181 v182 v183 v184 v185 v186 v187 v188 v189 v190 v191 v192 v193 v194 v195 v196 v197 v198 v199 v200 v201 v202 v203 v204 v205 v206 v207 v208 v209 v210 v211 v212 v213 v214 v215 v216 v217 v218 v219 v220 v221 : Value} {w0 : World} {b17 b18 b19 : Nat} (hrow : w0.heap[b17]? = some (rowObj (List.replicate 16 (.int .i32 1)) 26)) (hrow' : w0.heap[b18]? = some (rowObj (List.replicate 64 (.float .f64 4746794007248502784)) 29))
    (hrow'' : w0.heap[b19]? = some (rowObj (List.replicate 16 (.float .f64 4895412794951729152)) 30))
    (hK : ∀ (u2 u21 u140 u141 u142 u143 u144 u145 u146 u147 u148 u149 u150 u151 u152 u153 u154 u155 u156 u157 u158 u159 u160 u161 u162 u163 : Value), K ⟨#[v0, v1, u2, v3, v4, v5, v6, v7, v8, v9, v10, v11, v12, v13, v14, v15, v16, .pointer (some ⟨b17, 0, none⟩), .pointer (some ⟨b18, 0, none⟩), .pointer (some ⟨b19, 0, none⟩), .int .i64 16, u21, v22, v23, v24, v25, v26, v27, v28, v29, v30, v31, v32, v33, v34, v35, v36, v37, v38, v39, v40, v41, v42, v43, v44, v45, v46, v47, v48, v49, v50, v51, v52, v53, v54, v55, v56, v57, v58, v59, v60, v61, v62, v63, v64, v65, v66, v67, v68, v69, v70, v71, v72, v73, v74, v75, v76, v77, v78, v79, v80, v81, v82, v83, v84, v85, v86, v87, v88, v89, v90, v91, v92, v93, v94, v95, v96, v97, v98, v99, v100, v101, v102, v103, v104, v105, v106, v107, v108, v109, v110, v111, v112, v113, v114, v115, v116, v117, v118, v119, v120, v121, v122, v123, v124, v125, v126, v127, v128, v129, v130, v131, v132, v133, v134, v135, v136, v137, v138, v139, u140, u141, u142, u143, u144, u145, u146, u147, u148, u149, u150, u151, u152, u153, u154, u155, u156, u157, u158, u159, u160, u161, u162, u163, v164, v165, v166, v167, v168, v169, v170, v171, v172, v173, v174, v175, v176, v177, v178, v179, v180, v181, v182, v183, v184, v185, v186, v187, v188, v189, v190, v191, v192, v193, v194, v195, v196, v197, v198, v199, v200, v201, v202, v203, v204, v205, v206, v207, v208, v209, v210, v211, v212, v213, v214, v215, v216, v217, v218, v219, v220, v221], []⟩ w0) :
    Code.wp Tryd.prog (sub4 [1, 1, 1, 1, 1, 1, 1, 1, 1, 0, 1] (Tryd.f3.body.getD .skip)) (Exit.then K Q) ⟨#[v0, v1, v2, v3, v4, v5, v6, v7, v8, v9, v10, v11, v12, v13, v14, v15, v16, .pointer (some ⟨b17, 0, none⟩), .pointer (some ⟨b18, 0, none⟩), .pointer (some ⟨b19, 0, none⟩), .int .i64 0, v21, v22, v23, v24, v25, v26, v27, v28, v29, v30, v31, v32, v33, v34, v35, v36, v37, v38, v39, v40, v41, v42, v43, v44, v45, v46, v47, v48, v49, v50, v51, v52, v53, v54, v55, v56, v57, v58, v59, v60, v61, v62, v63, v64, v65, v66, v67, v68, v69, v70, v71, v72, v73, v74, v75, v76, v77, v78, v79, v80, v81, v82, v83, v84, v85, v86, v87, v88, v89, v90, v91, v92, v93, v94, v95, v96, v97, v98, v99, v100, v101, v102, v103, v104, v105, v106, v107, v108, v109, v110, v111, v112, v113, v114, v115, v116, v117, v118, v119, v120, v121, v122, v123, v124, v125, v126, v127, v128, v129, v130, v131, v132, v133, v134, v135, v136, v137, v138, v139, v140, v141, v142, v143, v144, v145, v146, v147, v148, v149, v150, v151, v152, v153, v154, v155, v156, v157, v158, v159, v160, v161, v162, v163, v164, v165, v166, v167, v168, v169, v170, v171, v172, v173, v174, v175, v176, v177, v178, v179, v180, v181, v182, v183, v184, v185, v186, v187, v188, v189, v190, v191, v192, v193, v194, v195, v196, v197, v198, v199, v200, v201, v202, v203, v204, v205, v206, v207, v208, v209, v210, v211, v212, v213, v214, v215, v216, v217, v218, v219, v220, v221], []⟩ w0 := by
  have HR := hide (And.intro hrow (And.intro hrow' hrow''))
  clear hrow hrow' hrow''
  conv => arg 2; whnf
  go_wp2
  go_loopg [20] 16 (fun g s20 wr => ∃ o : Nat, s20 = .int .i64 o ∧ g + o = 16 ∧ wr = w0)
  case atStart => exact ⟨0, rfl, rfl, rfl⟩
  case round =>
    obtain ⟨o, rfl, hg, rfl⟩ := hrel
    by_cases c : o < 16
    · have h1 := row_cell (unhide HR).1 o _ (rep_at o c)
      have h2 := row_cell (unhide HR).2.2 o _ (rep_at o c)
      have he := eq64
      have c' : (o : Int) < 16 := by omega
      have c0 : (0 : Int) ≤ (o : Int) := by omega
      have Hg := hide hg
      clear hg
      go_upto_block 12 with fail
      refine extentLoop c (unhide HR).2.1 ?_
      intro u2 u153 u154 u155 u156 u157 u158 u159 u160 u161 u162 u163
      dsimp only
      go_wp2
      go_roundg (gk - 1)
      case measure => have := unhide Hg; omega
      case rel => exact ⟨o + 1, by go_num, by have := unhide Hg; omega, rfl⟩
    · obtain rfl : o = 16 := by omega
      go_wp2
      all_goals apply hK

theorem on_lo (i : Nat) (h : i < 8) : onL[i]? = some (.int .i16 8) := by
  unfold onL
  rw [List.getElem?_append_left (by simpa using h), rep_at _ h]
theorem on_hi (i : Nat) (h : 8 ≤ i) (h' : i < 96) : onL[i]? = some (.int .i16 0) := by
  unfold onL
  rw [List.getElem?_append_right (by simpa using h), rep_at _ (by simp; omega)]

set_option maxRecDepth 100000 in
set_option maxHeartbeats 4000000 in
theorem onLoop {K : Act → World → Prop} {Q : Exit → Act → World → Prop} {v0 v1 v2 v3 v4 v5 v6 v7 v8 v9 v10 v11 v12 v13 v14 v15 v16 v17 v18 v19 v20 v21 v24 v25 v26 v27 v28 v29 v30 v31 v32 v33 v34 v35 v36 v37 v38 v39 v40 v41 v42 v43 v44 v45 v46 v47 v48 v49 v50 v51 v52 v53 v54 v55 v56 v57 v58 v59 v60 v61 v62 v63 v64 v65 v66 v67 v68 v69 v70 v71 v72 v73 v74 v75 v76 v77 v78 v79 v80 v81 v82 v83 v84 v85 v86 v87 v88 v89 v90 v91 v92 v93 v94 v95 v96 v97 v98 v99 v100 v101 v102 v103 v104 v105 v106 v107 v108 v109 v110 v111 v112 v113 v114 v115 v116 v117 v118 v119 v120 v121 v122 v123 v124 v125 v126 v127 v128 v129 v130 v131 v132 v133 v134 v135 v136 v137 v138 v139 v140 v141 v142 v143 v144 v145 v146 v147 v148 v149 v150 v151 v152 v153 v154 v155 v156 v157 v158 v159 v160 v161 v162 v163 v164 v165 v166 v167 v168 v169 v170 v171 v172 v173 v174 v175 v176 v177 v178 v179 v180 v181 v182 v183 v184 v185 v186 v187 v188 v189 v190 v191 v192 v193 v194 v195 v196 v197 v198 v199 v200 v201 v202 v203 v204 v205 v206 v207 v208 v209 v210 v211 v212 v213 v214 v215 v216 v217 v218 v219 v220 v221 : Value} {w0 : World} {b22 : Nat} (hrow : w0.heap[b22]? = some (rowObj onL 32))
    (hK : ∀ (u2 u24 u170 u171 u172 u173 u174 u175 u176 u177 u178 u179 u180 : Value), K ⟨#[v0, v1, u2, v3, v4, v5, v6, v7, v8, v9, v10, v11, v12, v13, v14, v15, v16, v17, v18, v19, v20, v21, .pointer (some ⟨b22, 0, none⟩), .int .i64 96, u24, v25, v26, v27, v28, v29, v30, v31, v32, v33, v34, v35, v36, v37, v38, v39, v40, v41, v42, v43, v44, v45, v46, v47, v48, v49, v50, v51, v52, v53, v54, v55, v56, v57, v58, v59, v60, v61, v62, v63, v64, v65, v66, v67, v68, v69, v70, v71, v72, v73, v74, v75, v76, v77, v78, v79, v80, v81, v82, v83, v84, v85, v86, v87, v88, v89, v90, v91, v92, v93, v94, v95, v96, v97, v98, v99, v100, v101, v102, v103, v104, v105, v106, v107, v108, v109, v110, v111, v112, v113, v114, v115, v116, v117, v118, v119, v120, v121, v122, v123, v124, v125, v126, v127, v128, v129, v130, v131, v132, v133, v134, v135, v136, v137, v138, v139, v140, v141, v142, v143, v144, v145, v146, v147, v148, v149, v150, v151, v152, v153, v154, v155, v156, v157, v158, v159, v160, v161, v162, v163, v164, v165, v166, v167, v168, v169, u170, u171, u172, u173, u174, u175, u176, u177, u178, u179, u180, v181, v182, v183, v184, v185, v186, v187, v188, v189, v190, v191, v192, v193, v194, v195, v196, v197, v198, v199, v200, v201, v202, v203, v204, v205, v206, v207, v208, v209, v210, v211, v212, v213, v214, v215, v216, v217, v218, v219, v220, v221], []⟩ w0) :
    Code.wp Tryd.prog (sub4 [1, 1, 1, 1, 1, 1, 1, 1, 1, 1, 1, 1, 0, 1] (Tryd.f3.body.getD .skip)) (Exit.then K Q) ⟨#[v0, v1, v2, v3, v4, v5, v6, v7, v8, v9, v10, v11, v12, v13, v14, v15, v16, v17, v18, v19, v20, v21, .pointer (some ⟨b22, 0, none⟩), .int .i64 0, v24, v25, v26, v27, v28, v29, v30, v31, v32, v33, v34, v35, v36, v37, v38, v39, v40, v41, v42, v43, v44, v45, v46, v47, v48, v49, v50, v51, v52, v53, v54, v55, v56, v57, v58, v59, v60, v61, v62, v63, v64, v65, v66, v67, v68, v69, v70, v71, v72, v73, v74, v75, v76, v77, v78, v79, v80, v81, v82, v83, v84, v85, v86, v87, v88, v89, v90, v91, v92, v93, v94, v95, v96, v97, v98, v99, v100, v101, v102, v103, v104, v105, v106, v107, v108, v109, v110, v111, v112, v113, v114, v115, v116, v117, v118, v119, v120, v121, v122, v123, v124, v125, v126, v127, v128, v129, v130, v131, v132, v133, v134, v135, v136, v137, v138, v139, v140, v141, v142, v143, v144, v145, v146, v147, v148, v149, v150, v151, v152, v153, v154, v155, v156, v157, v158, v159, v160, v161, v162, v163, v164, v165, v166, v167, v168, v169, v170, v171, v172, v173, v174, v175, v176, v177, v178, v179, v180, v181, v182, v183, v184, v185, v186, v187, v188, v189, v190, v191, v192, v193, v194, v195, v196, v197, v198, v199, v200, v201, v202, v203, v204, v205, v206, v207, v208, v209, v210, v211, v212, v213, v214, v215, v216, v217, v218, v219, v220, v221], []⟩ w0 := by
  have HR := hide hrow
  clear hrow
  conv => arg 2; whnf
  go_wp2
  go_loopg [23] 96 (fun g s23 wr => ∃ i : Nat, s23 = .int .i64 i ∧ g + i = 96 ∧ wr = w0)
  case atStart => exact ⟨0, rfl, rfl, rfl⟩
  case round =>
    obtain ⟨i, rfl, hg, rfl⟩ := hrel
    by_cases c : i < 96
    · have c' : (i : Int) < 96 := by omega
      have c0 : (0 : Int) ≤ (i : Int) := by omega
      have Hg := hide hg
      clear hg
      by_cases e : i < 8
      · have h1 := row_cell (unhide HR) i _ (on_lo i e)
        have e' : (i : Int) < 8 := by omega
        go_wp2
        go_roundg (gk - 1)
        case measure => have := unhide Hg; omega
        case rel => exact ⟨i + 1, by go_num, by have := unhide Hg; omega, rfl⟩
      · have h1 := row_cell (unhide HR) i _ (on_hi i (by omega) c)
        have e' : ¬ (i : Int) < 8 := by omega
        go_wp2
        go_roundg (gk - 1)
        case measure => have := unhide Hg; omega
        case rel => exact ⟨i + 1, by go_num, by have := unhide Hg; omega, rfl⟩
    · obtain rfl : i = 96 := by omega
      go_wp2
      all_goals apply hK

set_option maxRecDepth 100000 in
set_option maxHeartbeats 4000000 in
theorem planeLoop {K : Act → World → Prop} {Q : Exit → Act → World → Prop} {v0 v1 v2 v4 v5 v6 v7 v8 v9 v10 v11 v12 v13 v14 v15 v16 v17 v18 v19 v20 v21 v22 v23 v24 v26 v27 v28 v29 v30 v31 v32 v33 v34 v35 v36 v37 v38 v39 v40 v41 v42 v43 v44 v45 v46 v47 v48 v49 v50 v51 v52 v53 v54 v55 v56 v57 v58 v59 v60 v61 v62 v63 v64 v65 v66 v67 v68 v69 v70 v71 v72 v73 v74 v75 v76 v77 v78 v79 v80 v81 v82 v83 v84 v85 v86 v87 v88 v89 v90 v91 v92 v93 v94 v95 v96 v97 v98 v99 v100 v101 v102 v103 v104 v105 v106 v107 v108 v109 v110 v111 v112 v113 v114 v115 v116 v117 v118 v119 v120 v121 v122 v123 v124 v125 v126 v127 v128 v129 v130 v131 v132 v133 v134 v135 v136 v137 v138 v139 v140 v141 v142 v143 v144 v145 v146 v147 v148 v149 v150 v151 v152 v153 v154 v155 v156 v157 v158 v159 v160 v161 v162 v163 v164 v165 v166 v167 v168 v169 v170 v171 v172 v173 v174 v175 v176 v177 v178 v179 v180 v181 v182 v183 v184 v185 v186 v187 v188 v189 v190 v191 v192 v193 v194 v195 v196 v197 v198 v199 v200 v201 v202 v203 v204 v205 v206 v207 v208 v209 v210 v211 v212 v213 v214 v215 v216 v217 v218 v219 v220 v221 : Value} {w0 : World} {b3 bp bv B : Nat} {F : Nat → Value} {Z : Array Value} (hZ : Z = (lay F).toArray) (h4 : F 4 = .slice (some ⟨bp, 0, none⟩) 8 16) (hB : B ≤ w0.heap.size) (hc : Cell F b3 bp bv B w0)
    (hK : ∀ (u2 u184 u185 u186 u187 u188 u189 u190 u191 u192 u193 u194 u195 u196 : Value) (wx : World), Below w0.heap.size w0 wx → K ⟨#[v0, v1, u2, .pointer (some ⟨b3, 0, none⟩), v4, v5, v6, v7, v8, v9, v10, v11, v12, v13, v14, v15, v16, v17, v18, v19, v20, v21, v22, v23, v24, .int .i64 8, v26, v27, v28, v29, v30, v31, v32, v33, v34, v35, v36, v37, v38, v39, v40, v41, v42, v43, v44, v45, v46, v47, v48, v49, v50, v51, v52, v53, v54, v55, v56, v57, v58, v59, v60, v61, v62, v63, v64, v65, v66, v67, v68, v69, v70, v71, v72, v73, v74, v75, v76, v77, v78, v79, v80, v81, v82, v83, v84, v85, v86, v87, v88, v89, v90, v91, v92, v93, v94, v95, v96, v97, v98, v99, v100, v101, v102, v103, v104, v105, v106, v107, v108, v109, v110, v111, v112, v113, v114, v115, v116, v117, v118, v119, v120, v121, v122, v123, v124, v125, v126, v127, v128, v129, v130, v131, v132, v133, v134, v135, v136, v137, v138, v139, v140, v141, v142, v143, v144, v145, v146, v147, v148, v149, v150, v151, v152, v153, v154, v155, v156, v157, v158, v159, v160, v161, v162, v163, v164, v165, v166, v167, v168, v169, v170, v171, v172, v173, v174, v175, v176, v177, v178, v179, v180, v181, v182, v183, u184, u185, u186, u187, u188, u189, u190, u191, u192, u193, u194, u195, u196, v197, v198, v199, v200, v201, v202, v203, v204, v205, v206, v207, v208, v209, v210, v211, v212, v213, v214, v215, v216, v217, v218, v219, v220, v221], []⟩ wx) :
    Code.wp Tryd.prog (sub4 [1, 1, 1, 1, 1, 1, 1, 1, 1, 1, 1, 1, 1, 1, 0, 1] (Tryd.f3.body.getD .skip)) (Exit.then K Q) ⟨#[v0, v1, v2, .pointer (some ⟨b3, 0, none⟩), v4, v5, v6, v7, v8, v9, v10, v11, v12, v13, v14, v15, v16, v17, v18, v19, v20, v21, v22, v23, v24, .int .i64 0, v26, v27, v28, v29, v30, v31, v32, v33, v34, v35, v36, v37, v38, v39, v40, v41, v42, v43, v44, v45, v46, v47, v48, v49, v50, v51, v52, v53, v54, v55, v56, v57, v58, v59, v60, v61, v62, v63, v64, v65, v66, v67, v68, v69, v70, v71, v72, v73, v74, v75, v76, v77, v78, v79, v80, v81, v82, v83, v84, v85, v86, v87, v88, v89, v90, v91, v92, v93, v94, v95, v96, v97, v98, v99, v100, v101, v102, v103, v104, v105, v106, v107, v108, v109, v110, v111, v112, v113, v114, v115, v116, v117, v118, v119, v120, v121, v122, v123, v124, v125, v126, v127, v128, v129, v130, v131, v132, v133, v134, v135, v136, v137, v138, v139, v140, v141, v142, v143, v144, v145, v146, v147, v148, v149, v150, v151, v152, v153, v154, v155, v156, v157, v158, v159, v160, v161, v162, v163, v164, v165, v166, v167, v168, v169, v170, v171, v172, v173, v174, v175, v176, v177, v178, v179, v180, v181, v182, v183, v184, v185, v186, v187, v188, v189, v190, v191, v192, v193, v194, v195, v196, v197, v198, v199, v200, v201, v202, v203, v204, v205, v206, v207, v208, v209, v210, v211, v212, v213, v214, v215, v216, v217, v218, v219, v220, v221], []⟩ w0 := by
  have HC := hide (And.intro hc h4)
  have HZ := hide hZ
  clear hc hZ h4
  conv => arg 2; whnf
  go_wp2
  go_loopg [25] 8 (fun g s25 wr => ∃ i : Nat, s25 = .int .i64 i ∧ g + i = 8 ∧ Below w0.heap.size w0 wr)
  case atStart => exact ⟨0, rfl, rfl, Below.refl _ _⟩
  case round =>
    obtain ⟨i, rfl, hg, hb⟩ := hrel
    by_cases c : i < 8
    · have c' : (i : Int) < 8 := by omega
      have c0 : (0 : Int) ≤ (i : Int) := by omega
      have Hg := hide hg
      have cr := (unhide HC).1.below (hb.mono hB)
      have hn := hasNode_any (unhide HZ) (unhide HC).2 c wr cr.pls
      have H1 := hide (And.intro hn (And.intro cr hb))
      clear hg hn cr hb
      go_upto_if 196 with (first | ((with_reducible refine wl_load (b3 := b3) (f := F) ?hx (unhide HZ) (unhide H1).2.1.row ?_); (case hx => rfl)) | ((with_reducible refine wl_loadG (b3 := b3) (f := F) (d := 191) ?hx ?hd ?hs ?he (unhide HZ) (unhide H2).2.1.row ?_); (case hx => rfl); (case hd => rfl); (case hs => exact (by decide : 191 < 222)); (case he => rfl)) | (go_at_call 18; refine (unhide H1).1.mono ?_; rintro e w2 ⟨rfl, hb2⟩; have bb : Below w0.heap.size w0 w2 := (unhide H1).2.2.trans (hb2.mono (unhide H1).2.2.size); have cr2 := (unhide HC).1.below (bb.mono hB); have hs2 := sides_any (unhide HZ) (unhide HC).2 c w2 cr2.pls; have H2 := hide (And.intro hs2 (And.intro cr2 bb)); clear hs2 cr2 bb hb2) | (go_at_call 19; refine (unhide H2).1.mono ?_; rintro e w3 ⟨rfl, hb3⟩))
      have bb : Below w0.heap.size w0 w3 := (unhide H2).2.2.trans (hb3.mono (unhide H2).2.2.size)
      have H3 := hide bb
      clear bb hb3
      go_wp2
      go_roundg (gk - 1)
      case measure => have := unhide Hg; omega
      case rel => exact ⟨i + 1, by go_num, by have := unhide Hg; omega, unhide H3⟩
    · obtain rfl : i = 8 := by omega
      have H2 := hide hb
      clear hg hb
      go_wp2
      first
        | exact unhide H2
        | (apply hK; exact unhide H2)

end Go.Proofs.Qxb6614855aDoor
