/- The fourth loop: the bits. -/
import Derived.Test.Qxb6616078aDoorL1
namespace Go.Proofs.Qxb6616078aDoor
open Go.RowKit Plain

theorem or_word (y r : Nat) (hy : y < 18446744073709551616) (hr : r < 64) : bits BinOp.or IntKind.u64 (y : Int) (IntKind.u64.wrap (2 ^ r)) = ((y ||| 2 ^ r : Nat) : Int) := by
  have hp : 2 ^ r < 18446744073709551616 := Nat.pow_lt_pow_right (n := 64) (by decide) hr
  have e : IntKind.u64.wrap ((2 : Int) ^ r) = ((2 ^ r : Nat) : Int) := by
    rw [IntKind.wrap_u64, show ((2 : Int) ^ r) = ((2 ^ r : Nat) : Int) from by simp]
    generalize 2 ^ r = p at hp ⊢
    omega
  rw [e, bits_or_u64_nat y (2 ^ r) hy hp]

set_option maxRecDepth 100000 in
set_option maxHeartbeats 2000000 in
theorem loop4 {K : Act → World → Prop} {Q : Exit → Act → World → Prop} {v1 v2 v3 v4 v5 v6 v7 v10 v11 v12 v13 v14 v15 v16 v17 v18 v19 v20 v21 v22 v23 v24 v25 v26 v27 v28 v29 v30 v31 v32 v33 v34 v35 v36 v37 v38 v39 v40 v41 v42 v43 v44 v45 v46 v47 v48 v49 v50 v51 v52 v53 v54 v55 v56 v57 v58 v59 v60 v61 v62 v63 v64 v65 v66 v67 v68 v69 v70 v71 v72 v73 v74 v75 v76 v77 v78 v79 v80 v81 v82 v83 v84 v85 v86 v87 v88 v89 v90 v91 v92 v93 v94 v95 v96 v97 v98 v99 v100 v101 v102 v103 v104 v105 v106 v107 v108 v109 v110 v111 v112 v113 v114 v115 v116 v117 v118 v119 v120 v121 v122 v123 v124 v125 v126 v127 v128 v129 v130 v131 v132 v133 v134 v135 : Value} {w0 w1 : World} {oa : Option Addr} {n ca g8 nw : Nat} {L : List Nat} {F0 : List Nat}
    (hA : ∀ wr, Below w0.heap.size w0 wr → Arg wr oa n (nats L)) (hL : ∀ i, i < n → L.getD i 0 < 65536 ∧ L.getD i 0 / 64 < nw) (hn : n ≤ 65536) (hw : nw ≤ 1024) (hg8 : w0.heap.size ≤ g8) (hrow : w1.heap[g8]? = some (rowObj (words F0) 27)) (hM : Bits F0 nw []) (hb : Below w0.heap.size w0 w1) (hlt : g8 < w1.heap.size)
    (hK : ∀ (u10 u83 u84 u85 u86 u87 u88 u89 u90 u91 u92 u93 u94 u95 u96 u97 u98 u99 u100 u101 u102 u103 : Value) (wx : World), (∃ F, wx.heap[g8]? = some (rowObj (words F) 27) ∧ Bits F nw L ∧ Below w0.heap.size w0 wx ∧ g8 < wx.heap.size) → K ⟨#[.slice oa n ca, v1, v2, v3, v4, v5, v6, v7, .slice (some ⟨g8, 0, none⟩) nw nw, .int .i64 n, u10, v11, v12, v13, v14, v15, v16, v17, v18, v19, v20, v21, v22, v23, v24, v25, v26, v27, v28, v29, v30, v31, v32, v33, v34, v35, v36, v37, v38, v39, v40, v41, v42, v43, v44, v45, v46, v47, v48, v49, v50, v51, v52, v53, v54, v55, v56, v57, v58, v59, v60, v61, v62, v63, v64, v65, v66, v67, v68, v69, v70, v71, v72, v73, v74, v75, v76, v77, v78, v79, v80, v81, v82, u83, u84, u85, u86, u87, u88, u89, u90, u91, u92, u93, u94, u95, u96, u97, u98, u99, u100, u101, u102, u103, v104, v105, v106, v107, v108, v109, v110, v111, v112, v113, v114, v115, v116, v117, v118, v119, v120, v121, v122, v123, v124, v125, v126, v127, v128, v129, v130, v131, v132, v133, v134, v135], []⟩ wx) :
    Code.wp Tryd.prog (sub [1, 1, 1, 1, 1, 1, 1, 1, 1, 1, 0, 1] (Tryd.f3.body.getD .skip)) (Exit.then K Q) ⟨#[.slice oa n ca, v1, v2, v3, v4, v5, v6, v7, .slice (some ⟨g8, 0, none⟩) nw nw, .int .i64 0, v10, v11, v12, v13, v14, v15, v16, v17, v18, v19, v20, v21, v22, v23, v24, v25, v26, v27, v28, v29, v30, v31, v32, v33, v34, v35, v36, v37, v38, v39, v40, v41, v42, v43, v44, v45, v46, v47, v48, v49, v50, v51, v52, v53, v54, v55, v56, v57, v58, v59, v60, v61, v62, v63, v64, v65, v66, v67, v68, v69, v70, v71, v72, v73, v74, v75, v76, v77, v78, v79, v80, v81, v82, v83, v84, v85, v86, v87, v88, v89, v90, v91, v92, v93, v94, v95, v96, v97, v98, v99, v100, v101, v102, v103, v104, v105, v106, v107, v108, v109, v110, v111, v112, v113, v114, v115, v116, v117, v118, v119, v120, v121, v122, v123, v124, v125, v126, v127, v128, v129, v130, v131, v132, v133, v134, v135], []⟩ w1 := by
  have hl : L.length = n := by have := (hA w1 hb).len; rwa [nats_len] at this
  have HA := hide hA
  have Hl := hide hl
  have HL := hide hL
  have H0 := hide (And.intro hrow (And.intro hM hb))
  clear hA hl hL hrow hM hb
  conv => arg 2; whnf
  go_wp2
  go_loopg [9] n (fun g s9 wr => ∃ k : Nat, s9 = .int .i64 k ∧ g + k = n ∧ (∃ F, wr.heap[g8]? = some (rowObj (words F) 27) ∧ Bits F nw (L.take k) ∧ Below w0.heap.size w0 wr ∧ g8 < wr.heap.size))
  case atStart => exact ⟨0, rfl, rfl, F0, (unhide H0).1, by simpa using (unhide H0).2.1, (unhide H0).2.2, hlt⟩
  case round =>
    obtain ⟨k, rfl, hg, F, hrow, hM, hb, hlt'⟩ := hrel
    have Hg := hide hg
    by_cases c : k < n
    · obtain ⟨b, o, rfl, _, hcx⟩ := (unhide HA wr hb).plain (by omega)
      have hx := hcx k _ (nats_at (F := L) (i := k) (by rw [unhide Hl]; exact c))
      have hx6 := unhide HL k c
      have htk := take_step L k (by rw [unhide Hl]; exact c)
      obtain ⟨x, ex⟩ : ∃ x : Nat, x = L.getD k 0 := ⟨_, rfl⟩
      rw [← ex] at hx hx6 htk
      have hM2 := hM.set x hx6.2
      rw [← htk] at hM2
      obtain ⟨d, ed⟩ : ∃ d, d = x / 64 := ⟨_, rfl⟩
      obtain ⟨r, er⟩ : ∃ r, r = x % 64 := ⟨_, rfl⟩
      have hr : r < 64 := by omega
      have hd : d < nw := by omega
      have xd : (x : Int) / 64 = (d : Int) := by omega
      have xr : (x : Int) % 64 = (r : Int) := by omega
      have hx7 := hx6.1
      rw [← ed, ← er] at hM2
      have hs := row_cell hrow d _ (words_at (F := F) (i := d) (by rw [hM.len]; exact hd))
      have hf := row_free hrow d
      have hy := hM.lt d
      obtain ⟨y, ey⟩ : ∃ y : Nat, y = F.getD d 0 := ⟨_, rfl⟩
      rw [← ey] at hs hM2 hy
      have hset := row_set hrow d (.int .u64 (bits BinOp.or IntKind.u64 (y : Int) (IntKind.u64.wrap (2 ^ r))))
      rw [show Value.int .u64 (bits BinOp.or IntKind.u64 (y : Int) (IntKind.u64.wrap (2 ^ r))) = Value.int .u64 ((y ||| 2 ^ r : Nat) : Int) from by rw [or_word y r hy hr]] at hset
      rw [words_set, ← or_word y r hy hr] at hset
      have H2 := hide (And.intro hset (And.intro hM2 hb))
      clear ex hg hcx hset hM2 hM hrow htk ey hb hx6 ed er
      go_wp2
      go_roundg (gk - 1)
      case measure => have := unhide Hg; omega
      case rel => exact ⟨k + 1, by go_num, by have := unhide Hg; omega, _, (unhide H2).1, (unhide H2).2.1, (unhide H2).2.2.setCell (by simpa using hg8) _, by simpa [World.setCell] using hlt'⟩
    · obtain rfl : k = n := by omega
      have e : L.take k = L := by rw [← unhide Hl, List.take_length]
      rw [e] at hM
      have hex : ∃ F, wr.heap[g8]? = some (rowObj (words F) 27) ∧ Bits F nw L ∧ Below w0.heap.size w0 wr ∧ g8 < wr.heap.size := ⟨F, hrow, hM, hb, hlt'⟩
      have Hex := hide hex
      clear hg hrow hM hb e hex
      go_wp2
      exact unhide Hex

end Go.Proofs.Qxb6616078aDoor
