/- The first loop: every member lies in the bounds, or the law answers true. -/
import Derived.Test.Qxb6616078aDoorKEach
import Derived.Deep.CutBlock
namespace Go.Proofs.Qxb6616078aDoor
open Go.RowKit Plain

/-- A part of a function's text, by its place. -/
def sub : List Nat → Code → Code
  | 0 :: p, .seq a _ => sub p a
  | 1 :: p, .seq _ b => sub p b
  | 2 :: p, .block _ c => sub p c
  | 3 :: p, .loop c => sub p c
  | _, c => c

theorem ints_at {F : List Int} {i : Nat} (h : i < F.length) : (ints F)[i]? = some (.int .i64 (F.getD i 0)) := by
  simp [ints, h]

set_option maxRecDepth 100000 in
set_option maxHeartbeats 2000000 in
theorem loop1 {K : Act → World → Prop} {v1 v2 v4 v5 v6 v7 v8 v9 v10 v11 v12 v13 v14 v15 v16 v17 v18 v19 v20 v21 v22 v23 v24 v25 v26 v27 v28 v29 v30 v31 v32 v33 v34 v35 v36 v37 v38 v39 v40 v41 v42 v43 v44 v45 v46 v47 v48 v49 v50 v51 v52 v53 v54 v55 v56 v57 v58 v59 v60 v61 v62 v63 v64 v65 v66 v67 v68 v69 v70 v71 v72 v73 v74 v75 v76 v77 v78 v79 v80 v81 v82 v83 v84 v85 v86 v87 v88 v89 v90 v91 v92 v93 v94 v95 v96 v97 v98 v99 v100 v101 v102 v103 v104 v105 v106 v107 v108 v109 v110 v111 v112 v113 v114 v115 v116 v117 v118 v119 v120 v121 v122 v123 v124 v125 v126 v127 v128 v129 v130 v131 v132 v133 v134 v135 : Value} {w : World} {oa : Option Addr} {n ca : Nat} {Z : List Int}
    (hA : Arg w oa n (ints Z)) (hn : n ≤ 65536)
    (hK : ∀ (u2 u21 u22 u23 u24 u25 u26 u27 u28 u29 u30 u31 u32 u33 u34 u35 u36 u37 u38 : Value), (∀ i, i < n → 0 ≤ Z.getD i 0 ∧ Z.getD i 0 < 65536) → K ⟨#[.slice oa n ca, v1, u2, .int .i64 n, v4, v5, v6, v7, v8, v9, v10, v11, v12, v13, v14, v15, v16, v17, v18, v19, v20, u21, u22, u23, u24, u25, u26, u27, u28, u29, u30, u31, u32, u33, u34, u35, u36, u37, u38, v39, v40, v41, v42, v43, v44, v45, v46, v47, v48, v49, v50, v51, v52, v53, v54, v55, v56, v57, v58, v59, v60, v61, v62, v63, v64, v65, v66, v67, v68, v69, v70, v71, v72, v73, v74, v75, v76, v77, v78, v79, v80, v81, v82, v83, v84, v85, v86, v87, v88, v89, v90, v91, v92, v93, v94, v95, v96, v97, v98, v99, v100, v101, v102, v103, v104, v105, v106, v107, v108, v109, v110, v111, v112, v113, v114, v115, v116, v117, v118, v119, v120, v121, v122, v123, v124, v125, v126, v127, v128, v129, v130, v131, v132, v133, v134, v135], []⟩ w) :
    Code.wp Tryd.prog (sub [1, 1, 1, 0, 1] (Tryd.f3.body.getD .skip)) (Exit.then K (bodyPost Tryd.prog Tryd.f3 (fun e w' => e = .returned (.bool true) ∧ Below w.heap.size w w'))) ⟨#[.slice oa n ca, v1, v2, .int .i64 0, v4, v5, v6, v7, v8, v9, v10, v11, v12, v13, v14, v15, v16, v17, v18, v19, v20, v21, v22, v23, v24, v25, v26, v27, v28, v29, v30, v31, v32, v33, v34, v35, v36, v37, v38, v39, v40, v41, v42, v43, v44, v45, v46, v47, v48, v49, v50, v51, v52, v53, v54, v55, v56, v57, v58, v59, v60, v61, v62, v63, v64, v65, v66, v67, v68, v69, v70, v71, v72, v73, v74, v75, v76, v77, v78, v79, v80, v81, v82, v83, v84, v85, v86, v87, v88, v89, v90, v91, v92, v93, v94, v95, v96, v97, v98, v99, v100, v101, v102, v103, v104, v105, v106, v107, v108, v109, v110, v111, v112, v113, v114, v115, v116, v117, v118, v119, v120, v121, v122, v123, v124, v125, v126, v127, v128, v129, v130, v131, v132, v133, v134, v135], []⟩ w := by
  have hl : Z.length = n := by have := hA.len; simpa [ints] using this
  have HA := hide hA
  have Hl := hide hl
  clear hA hl
  conv => arg 2; whnf
  go_wp2
  go_loopg [3] n (fun g s3 wr => ∃ k : Nat, s3 = .int .i64 k ∧ g + k = n ∧ wr = w ∧ (∀ i, i < k → 0 ≤ Z.getD i 0 ∧ Z.getD i 0 < 65536))
  case atStart => exact ⟨0, rfl, rfl, rfl, fun i hi => by omega⟩
  case round =>
    obtain ⟨k, rfl, hg, rfl, hall⟩ := hrel
    have Hall := hide hall
    have Hg := hide hg
    by_cases c : k < n
    · obtain ⟨b, o, rfl, _, hcx⟩ := (unhide HA).plain (by omega)
      have hx := hcx k _ (ints_at (F := Z) (i := k) (by rw [unhide Hl]; exact c))
      obtain ⟨x, ex⟩ : ∃ x : Int, x = Z.getD k 0 := ⟨_, rfl⟩
      rw [← ex] at hx
      have Ex := hide ex
      clear ex hall hg hcx
      by_cases c1 : x < 0
      · go_wp2
        go_ret
        exact ⟨rfl, Below.refl _ _⟩
      · by_cases c2 : x < 65536
        · have c3 : 0 ≤ x := by omega
          clear c1
          go_wp2
          go_roundg (gk - 1)
          case measure => have := unhide Hg; omega
          case rel =>
            refine ⟨k + 1, by go_num, by have := unhide Hg; omega, rfl, fun i hi => ?_⟩
            by_cases e : i = k
            · subst e
              rw [← unhide Ex]
              exact ⟨c3, c2⟩
            · exact unhide Hall i (by omega)
        · have c3 : 0 ≤ x := by omega
          have c4 : 65536 ≤ x := by omega
          clear c1 c2
          go_wp2
          go_ret
          exact ⟨rfl, Below.refl _ _⟩
    · obtain rfl : k = n := by omega
      clear hall hg
      go_wp2
      exact unhide Hall

end Go.Proofs.Qxb6616078aDoor
