/- The questions that a cell is asked: its corners and planes. -/
import Derived.Test.Qxb6614855aDoorA1
namespace Go.Proofs.Qxb6614855aDoor
open Go.RowKit

def vsub (k o n : Nat) : List Value := ((vtx k).drop o).take n
theorem vsub_range {w : World} {bv k : Nat} (h : Corners bv w) (hk : k < 16) (o n : Nat) : w.rangeAt bv (k * 12 + o) (vsub k o n) := fun j v hv => by
  unfold vsub at hv
  rw [List.getElem?_take] at hv
  split at hv
  · rw [List.getElem?_drop] at hv
    rw [Nat.add_assoc]
    exact h k (o + j) v hk hv
  · cases hv
theorem vsub_one (k o n : Nat) : ∀ v ∈ vsub k o n, v.oneCell' = true := fun v hv => vtx_one k v (List.mem_of_mem_drop (List.mem_of_mem_take hv))
theorem Corners.below {bv : Nat} {w w' : World} (h : Corners bv w) (hb : Below w.heap.size w w') : Corners bv w' := fun k i v hk hv => by
  have hl := lt_of_cell (h k i v hk hv)
  exact (World.cell?_of_block (w := w) (hb.block bv hl)).trans (h k i v hk hv)


set_option maxRecDepth 20000 in
set_option maxHeartbeats 1000000 in
theorem at_any {F : Nat → Value} {Z : Array Value} (hZ : Z = (lay F).toArray) {bv cap k : Nat} (h5 : F 5 = .slice (some ⟨bv, 0, none⟩) 16 cap) (hk16 : k < 16) (w : World) (hV : Corners bv w) : Calls Tryd.prog 8 #[.agg Z, .int .i64 k] w fun e w' => e = .returned (.agg (vsub k 0 4).toArray) ∧ Below w.heap.size w w' := by
  obtain ⟨O, eO⟩ : ∃ O, O = rowObj (List.replicate 4 (.float .f64 0)) 28 := ⟨_, rfl⟩
  have hal : ∀ w : World, (Instr.alloc 28 true (.tuple #[])).run Tryd.prog w = .ok (.pointer (some ⟨w.heap.size, 0, none⟩)) (w.alloc O) := by rw [eO]; exact allocZ28
  have HAL := hide hal
  obtain ⟨W, eW⟩ : ∃ W, W = (w.alloc (.cells Z 36)).alloc O := ⟨_, rfl⟩
  have hrW : W.heap[w.heap.size]? = some (rowObj (lay F) 36) := by
    rw [eW, Below.heap_alloc _ _ _ (by simp), hZ]
    exact heap_alloc_last _ _
  have hqW : W.heap[w.heap.size + 1]? = some (rowObj (List.replicate 4 (.float .f64 0)) 28) := by
    rw [eW, ← eO]
    have := heap_alloc_last (w.alloc (.cells Z 36)) O
    simpa using this
  have hbW : Below w.heap.size w W := by rw [eW]; exact ((Below.refl _ _).alloc (Nat.le_refl _) _).alloc (by simp) _
  have hrg : W.rangeAt bv (k * 12) (vsub k 0 4) := vsub_range (hV.below hbW) hk16 0 4
  have c5 := row_cell hrW 5 _ (lay_at _ (by omega))
  rw [h5] at c5
  have ck : (k : Int) < 16 := by omega
  have ck0 : (0 : Int) ≤ (k : Int) := by omega
  have hln : (vsub k 0 4).length = 4 := rfl
  have hone : ∀ v ∈ (vsub k 0 4), v.oneCell' = true := vsub_one k 0 4
  obtain ⟨R, eR⟩ : ∃ R, R = (vsub k 0 4) := ⟨_, rfl⟩
  rw [← eR] at hrg hln hone ⊢
  obtain ⟨V, eV⟩ : ∃ V, V = R.toArray := ⟨_, rfl⟩
  have hsz : (Tryd.prog.info? 28).map (·.size) = some R.length := by rw [hln]; exact sizeZ28
  have hszl : (Tryd.prog.info? 28).map (·.size) = some R.length := by rw [hln]; exact sizeZ28
  have hcl : (List.replicate 4 (.float .f64 0 : Value)).length = R.length := by rw [hln]; rfl
  rw [← eV]
  have H := hide (And.intro hrg (And.intro hone (And.intro hqW hbW)))
  have HV := hide eV
  clear eR eV hrg hone hrW hqW hbW hal eO hln hZ hV
  go_enter Tryd.func8, Tryd.ntmps8
  go_upto_region 1 with (with_reducible refine wl_allocT (unhide HAL _) ?_)
  rw [← eW]
  clear eW
  go_wp2_with (first | ((with_reducible refine wl_loadT (T := 28) ?hx (unhide HV) Tryd.underlying28 rfl hszl (unhide H).1 ?_); (case hx => rfl)) | ((with_reducible refine wl_storeT (T := 28) ?hx ?hy (unhide HV) (unhide H).2.1 hsz (unhide H).2.2.1 hcl ?_); (case hx => rfl); (case hy => rfl); intro wz hz))
  have hszv : (Tryd.prog.info? 28).map (·.size) = some V.size := by rw [hsz, unhide HV]; simp
  refine bodyPost_ret (results_cell_row rfl _ _ (w.heap.size + 1) 28 V (0, 0) _ rfl hz.1 Tryd.underlying28 rfl hszv) rfl ?_
  have zW := lt_of_heap (unhide H).2.2.1
  exact ⟨rfl, (unhide H).2.2.2.trans (hz.2.toBelow (by omega) (by omega))⟩

set_option maxRecDepth 20000 in
set_option maxHeartbeats 1000000 in
theorem vplanes_any {F : Nat → Value} {Z : Array Value} (hZ : Z = (lay F).toArray) {bv cap k : Nat} (h5 : F 5 = .slice (some ⟨bv, 0, none⟩) 16 cap) (hk16 : k < 16) (w : World) (hV : Corners bv w) : Calls Tryd.prog 9 #[.agg Z, .int .i64 k] w fun e w' => e = .returned (.agg (vsub k 4 3).toArray) ∧ Below w.heap.size w w' := by
  obtain ⟨O, eO⟩ : ∃ O, O = rowObj (List.replicate 3 (.int .u32 0)) 42 := ⟨_, rfl⟩
  have hal : ∀ w : World, (Instr.alloc 42 true (.tuple #[])).run Tryd.prog w = .ok (.pointer (some ⟨w.heap.size, 0, none⟩)) (w.alloc O) := by rw [eO]; exact allocZ42
  have HAL := hide hal
  obtain ⟨W, eW⟩ : ∃ W, W = (w.alloc (.cells Z 36)).alloc O := ⟨_, rfl⟩
  have hrW : W.heap[w.heap.size]? = some (rowObj (lay F) 36) := by
    rw [eW, Below.heap_alloc _ _ _ (by simp), hZ]
    exact heap_alloc_last _ _
  have hqW : W.heap[w.heap.size + 1]? = some (rowObj (List.replicate 3 (.int .u32 0)) 42) := by
    rw [eW, ← eO]
    have := heap_alloc_last (w.alloc (.cells Z 36)) O
    simpa using this
  have hbW : Below w.heap.size w W := by rw [eW]; exact ((Below.refl _ _).alloc (Nat.le_refl _) _).alloc (by simp) _
  have hrg : W.rangeAt bv (k * 12 + 4) (vsub k 4 3) := vsub_range (hV.below hbW) hk16 4 3
  have c5 := row_cell hrW 5 _ (lay_at _ (by omega))
  rw [h5] at c5
  have ck : (k : Int) < 16 := by omega
  have ck0 : (0 : Int) ≤ (k : Int) := by omega
  have hln : (vsub k 4 3).length = 3 := rfl
  have hone : ∀ v ∈ (vsub k 4 3), v.oneCell' = true := vsub_one k 4 3
  obtain ⟨R, eR⟩ : ∃ R, R = (vsub k 4 3) := ⟨_, rfl⟩
  rw [← eR] at hrg hln hone ⊢
  obtain ⟨V, eV⟩ : ∃ V, V = R.toArray := ⟨_, rfl⟩
  have hsz : (Tryd.prog.info? 42).map (·.size) = some R.length := by rw [hln]; exact sizeZ42
  have hszl : (Tryd.prog.info? 56).map (·.size) = some R.length := by rw [hln]; exact sizeZ56
  have hcl : (List.replicate 3 (.int .u32 0 : Value)).length = R.length := by rw [hln]; rfl
  rw [← eV]
  have H := hide (And.intro hrg (And.intro hone (And.intro hqW hbW)))
  have HV := hide eV
  clear eR eV hrg hone hrW hqW hbW hal eO hln hZ hV
  go_enter Tryd.func9, Tryd.ntmps9
  go_upto_region 1 with (with_reducible refine wl_allocT (unhide HAL _) ?_)
  rw [← eW]
  clear eW
  go_wp2_with (first | ((with_reducible refine wl_loadT (T := 56) ?hx (unhide HV) Tryd.underlying56 rfl hszl (unhide H).1 ?_); (case hx => rfl)) | ((with_reducible refine wl_storeT (T := 42) ?hx ?hy (unhide HV) (unhide H).2.1 hsz (unhide H).2.2.1 hcl ?_); (case hx => rfl); (case hy => rfl); intro wz hz))
  have hszv : (Tryd.prog.info? 42).map (·.size) = some V.size := by rw [hsz, unhide HV]; simp
  refine bodyPost_ret (results_cell_row rfl _ _ (w.heap.size + 1) 42 V (0, 0) _ rfl hz.1 Tryd.underlying42 rfl hszv) rfl ?_
  have zW := lt_of_heap (unhide H).2.2.1
  exact ⟨rfl, (unhide H).2.2.2.trans (hz.2.toBelow (by omega) (by omega))⟩

set_option maxRecDepth 20000 in
set_option maxHeartbeats 1000000 in
theorem next_any {F : Nat → Value} {Z : Array Value} (hZ : Z = (lay F).toArray) {bv cap k : Nat} (h5 : F 5 = .slice (some ⟨bv, 0, none⟩) 16 cap) (hk16 : k < 16) (w : World) (hV : Corners bv w) : Calls Tryd.prog 11 #[.agg Z, .int .i64 k] w fun e w' => e = .returned (.agg (vsub k 8 4).toArray) ∧ Below w.heap.size w w' := by
  obtain ⟨O, eO⟩ : ∃ O, O = rowObj (List.replicate 4 (.int .i16 0)) 45 := ⟨_, rfl⟩
  have hal : ∀ w : World, (Instr.alloc 45 true (.tuple #[])).run Tryd.prog w = .ok (.pointer (some ⟨w.heap.size, 0, none⟩)) (w.alloc O) := by rw [eO]; exact allocZ45
  have HAL := hide hal
  obtain ⟨W, eW⟩ : ∃ W, W = (w.alloc (.cells Z 36)).alloc O := ⟨_, rfl⟩
  have hrW : W.heap[w.heap.size]? = some (rowObj (lay F) 36) := by
    rw [eW, Below.heap_alloc _ _ _ (by simp), hZ]
    exact heap_alloc_last _ _
  have hqW : W.heap[w.heap.size + 1]? = some (rowObj (List.replicate 4 (.int .i16 0)) 45) := by
    rw [eW, ← eO]
    have := heap_alloc_last (w.alloc (.cells Z 36)) O
    simpa using this
  have hbW : Below w.heap.size w W := by rw [eW]; exact ((Below.refl _ _).alloc (Nat.le_refl _) _).alloc (by simp) _
  have hrg : W.rangeAt bv (k * 12 + 8) (vsub k 8 4) := vsub_range (hV.below hbW) hk16 8 4
  have c5 := row_cell hrW 5 _ (lay_at _ (by omega))
  rw [h5] at c5
  have ck : (k : Int) < 16 := by omega
  have ck0 : (0 : Int) ≤ (k : Int) := by omega
  have hln : (vsub k 8 4).length = 4 := rfl
  have hone : ∀ v ∈ (vsub k 8 4), v.oneCell' = true := vsub_one k 8 4
  obtain ⟨R, eR⟩ : ∃ R, R = (vsub k 8 4) := ⟨_, rfl⟩
  rw [← eR] at hrg hln hone ⊢
  obtain ⟨V, eV⟩ : ∃ V, V = R.toArray := ⟨_, rfl⟩
  have hsz : (Tryd.prog.info? 45).map (·.size) = some R.length := by rw [hln]; exact sizeZ45
  have hszl : (Tryd.prog.info? 45).map (·.size) = some R.length := by rw [hln]; exact sizeZ45
  have hcl : (List.replicate 4 (.int .i16 0 : Value)).length = R.length := by rw [hln]; rfl
  rw [← eV]
  have H := hide (And.intro hrg (And.intro hone (And.intro hqW hbW)))
  have HV := hide eV
  clear eR eV hrg hone hrW hqW hbW hal eO hln hZ hV
  go_enter Tryd.func11, Tryd.ntmps11
  go_upto_region 1 with (with_reducible refine wl_allocT (unhide HAL _) ?_)
  rw [← eW]
  clear eW
  go_wp2_with (first | ((with_reducible refine wl_loadT (T := 45) ?hx (unhide HV) Tryd.underlying45 rfl hszl (unhide H).1 ?_); (case hx => rfl)) | ((with_reducible refine wl_storeT (T := 45) ?hx ?hy (unhide HV) (unhide H).2.1 hsz (unhide H).2.2.1 hcl ?_); (case hx => rfl); (case hy => rfl); intro wz hz))
  have hszv : (Tryd.prog.info? 45).map (·.size) = some V.size := by rw [hsz, unhide HV]; simp
  refine bodyPost_ret (results_cell_row rfl _ _ (w.heap.size + 1) 45 V (0, 0) _ rfl hz.1 Tryd.underlying45 rfl hszv) rfl ?_
  have zW := lt_of_heap (unhide H).2.2.1
  exact ⟨rfl, (unhide H).2.2.2.trans (hz.2.toBelow (by omega) (by omega))⟩

set_option maxRecDepth 20000 in
set_option maxHeartbeats 1000000 in
theorem orthant_any {F : Nat → Value} {Z : Array Value} (hZ : Z = (lay F).toArray) {bv cap k : Nat} (hi : F 5 = .slice (some ⟨bv, 0, none⟩) 16 cap) (hk16 : k < 16) (w : World) (hV : Corners bv w) : Calls Tryd.prog 10 #[.agg Z, .int .i64 k] w fun e w' => e = .returned (.int .u8 k) ∧ Below w.heap.size w w' := by
  obtain ⟨W, eW⟩ : ∃ W, W = w.alloc (.cells Z 36) := ⟨_, rfl⟩
  have hrW : W.heap[w.heap.size]? = some (rowObj (lay F) 36) := by
    rw [eW, hZ]
    exact heap_alloc_last _ _
  have hbW : Below w.heap.size w W := by rw [eW]; exact (Below.refl _ _).alloc (Nat.le_refl _) _
  have c := row_cell hrW 5 _ (lay_at _ (by omega))
  rw [hi] at c
  have d := (hV.below hbW) k 7 _ hk16 rfl
  have ck : (k : Int) < 16 := by omega
  have ck0 : (0 : Int) ≤ (k : Int) := by omega
  clear hV
  have HB := hide hbW
  clear hZ hrW hi hbW
  go_enter Tryd.func10, Tryd.ntmps10
  go_upto_region 1 with fail
  rw [← eW]
  clear eW
  go_wp2
  go_ret
  exact ⟨rfl, unhide HB⟩

theorem planes_at : ∀ i, i < 8 → planesL[i * 2]? = some (.pointer none) ∧ planesL[i * 2 + 1]? = some (.int .u8 0)
  | 0, _ => ⟨rfl, rfl⟩
  | 1, _ => ⟨rfl, rfl⟩
  | 2, _ => ⟨rfl, rfl⟩
  | 3, _ => ⟨rfl, rfl⟩
  | 4, _ => ⟨rfl, rfl⟩
  | 5, _ => ⟨rfl, rfl⟩
  | 6, _ => ⟨rfl, rfl⟩
  | 7, _ => ⟨rfl, rfl⟩
  | _ + 8, h => by omega

set_option maxRecDepth 20000 in
set_option maxHeartbeats 1000000 in
theorem hasNode_any {F : Nat → Value} {Z : Array Value} (hZ : Z = (lay F).toArray) {bp cap i : Nat} (hi : F 4 = .slice (some ⟨bp, 0, none⟩) 8 cap) (hi8 : i < 8) (w : World) (hP : w.heap[bp]? = some (rowObj planesL 61)) : Calls Tryd.prog 18 #[.agg Z, .int .i64 i] w fun e w' => e = .returned (.bool false) ∧ Below w.heap.size w w' := by
  obtain ⟨W, eW⟩ : ∃ W, W = w.alloc (.cells Z 36) := ⟨_, rfl⟩
  have hrW : W.heap[w.heap.size]? = some (rowObj (lay F) 36) := by
    rw [eW, hZ]
    exact heap_alloc_last _ _
  have hbW : Below w.heap.size w W := by rw [eW]; exact (Below.refl _ _).alloc (Nat.le_refl _) _
  have c := row_cell hrW 4 _ (lay_at _ (by omega))
  rw [hi] at c
  have hpW : W.heap[bp]? = some (rowObj planesL 61) := (hbW.block bp (lt_of_heap hP)).trans hP
  have d := row_cell hpW (i * 2) _ (planes_at i hi8).1
  have ck : (i : Int) < 8 := by omega
  have ck0 : (0 : Int) ≤ (i : Int) := by omega
  clear hP hpW
  have HB := hide hbW
  clear hZ hrW hi hbW
  go_enter Tryd.func18, Tryd.ntmps18
  go_upto_region 1 with fail
  rw [← eW]
  clear eW
  go_wp2
  go_ret
  exact ⟨rfl, unhide HB⟩

set_option maxRecDepth 20000 in
set_option maxHeartbeats 1000000 in
theorem sides_any {F : Nat → Value} {Z : Array Value} (hZ : Z = (lay F).toArray) {bp cap i : Nat} (hi : F 4 = .slice (some ⟨bp, 0, none⟩) 8 cap) (hi8 : i < 8) (w : World) (hP : w.heap[bp]? = some (rowObj planesL 61)) : Calls Tryd.prog 19 #[.agg Z, .int .i64 i] w fun e w' => e = .returned (.int .u8 0) ∧ Below w.heap.size w w' := by
  obtain ⟨W, eW⟩ : ∃ W, W = w.alloc (.cells Z 36) := ⟨_, rfl⟩
  have hrW : W.heap[w.heap.size]? = some (rowObj (lay F) 36) := by
    rw [eW, hZ]
    exact heap_alloc_last _ _
  have hbW : Below w.heap.size w W := by rw [eW]; exact (Below.refl _ _).alloc (Nat.le_refl _) _
  have c := row_cell hrW 4 _ (lay_at _ (by omega))
  rw [hi] at c
  have hpW : W.heap[bp]? = some (rowObj planesL 61) := (hbW.block bp (lt_of_heap hP)).trans hP
  have d := row_cell hpW (i * 2 + 1) _ (planes_at i hi8).2
  have ck : (i : Int) < 8 := by omega
  have ck0 : (0 : Int) ≤ (i : Int) := by omega
  clear hP hpW
  have HB := hide hbW
  clear hZ hrW hi hbW
  go_enter Tryd.func19, Tryd.ntmps19
  go_upto_region 1 with fail
  rw [← eW]
  clear eW
  go_wp2
  go_ret
  exact ⟨rfl, unhide HB⟩

set_option maxRecDepth 20000 in
set_option maxHeartbeats 1000000 in
theorem zz_any (x : Nat → Int) (w : World) (hT : TabAt 0 Lib.deBruijn32tab w) (hs : 0 < w.heap.size) : Calls Tryd.prog 5 #[.agg (ownA x)] w fun e w' =>
    ∃ bp bv cap, e = .returned (.agg (lay (newF x bp bv cap)).toArray) ∧ w'.heap[bp]? = some (rowObj planesL 61) ∧ Corners bv w' ∧ Below w.heap.size w w' := by
  obtain ⟨ZO, eZO⟩ : ∃ ZO, ZO = rowObj (lay zeroF) 36 := ⟨_, rfl⟩
  obtain ⟨W0, eW0⟩ : ∃ W0, W0 = (w.alloc (.cells (ownA x) 23)).alloc ZO := ⟨_, rfl⟩
  have hb0 : Below w.heap.size w W0 := by rw [eW0]; exact ((Below.refl _ _).alloc (Nat.le_refl _) _).alloc (by simp) _
  have hz0 : W0.heap.size = w.heap.size + 2 := by rw [eW0]; simp
  have hr1 : W0.heap[w.heap.size]? = some (.cells (ownA x) 23) := by
    rw [eW0, Below.heap_alloc _ _ _ (by simp)]
    exact heap_alloc_last _ _
  have hr2 : W0.heap[w.heap.size + 1]? = some (rowObj (lay zeroF) 36) := by
    rw [eW0, ← eZO]
    have := heap_alloc_last (w.alloc (.cells (ownA x) 23)) ZO
    simpa using this
  have HZO := hide eZO
  have hrg : W0.rangeAt w.heap.size 0 (ownA x).toList := World.rangeAt_of_block hr1 0 4
  have hT0 : TabAt 0 Lib.deBruijn32tab W0 := fun i hi => (World.cell?_of_block (w := w) (hb0.block 0 hs)).trans (hT i hi)
  have hn := newCell_any x W0 hT0 (by omega)
  obtain ⟨O, eO⟩ : ∃ O, O = ownA x := ⟨_, rfl⟩
  have hO : O = (ownA x).toList.toArray := by rw [eO]
  have hsz : (Tryd.prog.info? 23).map (·.size) = some (ownA x).toList.length := by rw [sizeZ23]; rfl
  obtain ⟨OL, eOL⟩ : ∃ OL, OL = (ownA x).toList := ⟨_, rfl⟩
  rw [← eO] at eW0 hn ⊢
  rw [← eOL] at hO hsz hrg
  have H0 := hide (And.intro hn (And.intro hb0 (And.intro hr2 hrg)))
  have HO := hide hO
  clear hT hT0 hb0 hr1 hr2 hrg eZO hn eO eOL hO
  go_enter Tryd.func5, Tryd.ntmps5
  go_upto_region 1 with (with_reducible refine wl_alloc (unhide HZO) ?_)
  rw [← eW0]
  clear eW0
  go_wp2_with (first | ((with_reducible refine wl_loadT (T := 23) ?hx (unhide HO) Tryd.underlying23 rfl hsz (unhide H0).2.2.2 ?_); (case hx => rfl)) | (go_at_call 26; refine (unhide H0).1.mono ?_; rintro e wy ⟨bp, bv, cap, rfl, hp, hV, hb⟩; obtain ⟨Z, eZ⟩ : ∃ Z, Z = (lay (newF x bp bv cap)).toArray := ⟨_, rfl⟩; rw [← eZ]; have HZ := hide eZ; clear eZ; have q2 : wy.heap[w.heap.size + 1]? = some (rowObj (lay zeroF) 36) := (hb.block _ (by omega)).trans (unhide H0).2.2.1; have H1 := hide (And.intro hp (And.intro hV (And.intro hb q2))); clear hp hV hb q2) | ((with_reducible refine wl_store (b3 := w.heap.size + 1) (f := newF x bp bv cap) (g := zeroF) ?hx ?hy (unhide HZ) (newF_one x bp bv cap) (unhide H1).2.2.2 ?_); (case hx => rfl); (case hy => rfl); intro wz hz))
  have hzz : wz.heap[w.heap.size + 1]? = some (.cells Z 36 (0, 0)) := by rw [unhide HZ]; exact hz.1
  have hs36 : (Tryd.prog.info? 36).map (·.size) = some Z.size := by rw [unhide HZ, size36, List.size_toArray, lay_len]
  refine bodyPost_ret (results_cell_row rfl _ _ (w.heap.size + 1) 36 Z (0, 0) _ rfl hzz Tryd.underlying36 rfl hs36) rfl ?_
  obtain ⟨hp, hV, hb, q2⟩ := unhide H1
  have hlp := lt_of_heap hp
  have hsz1 := hb.size
  have kz := hz.2
  have key : ∀ b, b < wy.heap.size → b ≠ w.heap.size + 1 → wz.heap[b]? = wy.heap[b]? := fun b h1 h2 => kz.block b h1 h2
  have hnp : bp ≠ w.heap.size + 1 := by
    intro e
    rw [e, q2] at hp
    cases hp
  have hlv := lt_of_cell (hV 0 0 _ (by omega) rfl)
  have hnv : bv ≠ w.heap.size + 1 := by
    intro e
    have h1 := hV 0 7 _ (by omega) rfl
    have h2 := row_cell q2 7 _ (lay_at _ (by omega))
    rw [e] at h1
    have h3 := h1.symm.trans h2
    cases h3
  exact ⟨bp, bv, cap, by rw [unhide HZ], (key bp hlp hnp).trans hp, hV.keep kz hnv hlv, (unhide H0).2.1.trans ((hb.mono (by omega)).trans (kz.toBelow (by omega) (by omega)))⟩

end Go.Proofs.Qxb6614855aDoor
