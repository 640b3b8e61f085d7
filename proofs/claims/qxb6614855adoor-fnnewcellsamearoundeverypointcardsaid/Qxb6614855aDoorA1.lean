/- The questions that a cell is asked. -/
import Derived.Test.Qxb6614855aDoorN5
namespace Go.Proofs.Qxb6614855aDoor
open Go.RowKit

/-- n cells of the struct from o on. -/
def part (F : Nat → Value) (o n : Nat) : List Value := (List.range n).map fun j => F (o + j)
theorem part_at (F : Nat → Value) (o n j : Nat) (h : j < n) : (part F o n)[j]? = some (F (o + j)) := by
  unfold part
  rw [List.getElem?_map, List.getElem?_range h]
  rfl
theorem part_len (F : Nat → Value) (o n : Nat) : (part F o n).length = n := by simp [part]
theorem part_range {w : World} {b : Nat} {F : Nat → Value} (h : w.heap[b]? = some (rowObj (lay F) 36)) (o n : Nat) (hn : o + n ≤ 205) : w.rangeAt b o (part F o n) := fun j v hv => by
  have hj : j < n := by
    have := (List.getElem?_eq_some_iff.1 hv).1
    rwa [part_len] at this
  rw [part_at _ _ _ _ hj] at hv
  rw [row_cell h (o + j) _ (lay_at _ (by omega))]
  exact hv

/-- A block's cells from o on are laid. -/
theorem set_list {b t : Nat} : ∀ (vs : List Value) (o : Nat) (w : World) (cs : List Value), w.heap[b]? = some (rowObj cs t) → cs.length = o + vs.length →
    (w.setCells b o vs).heap[b]? = some (rowObj (cs.take o ++ vs) t) ∧ Keep b w (w.setCells b o vs)
  | [], o, w, cs, h, hl => by
    have : cs.take o = cs := List.take_of_length_le (by simp at hl; omega)
    rw [this, List.append_nil]
    exact ⟨h, Keep.refl _ _⟩
  | v :: vs, o, w, cs, h, hl => by
    have hl' : cs.length = o + (vs.length + 1) := hl
    obtain ⟨a, k⟩ := set_list vs (o + 1) (w.setCell ⟨b, o, none⟩ v) (cs.set o v) (row_set h o v) (by rw [List.length_set]; omega)
    refine ⟨?_, ((Keep.refl b w).set o v).trans k⟩
    have e : (cs.set o v).take (o + 1) ++ vs = cs.take o ++ v :: vs := by
      rw [List.take_add_one, List.getElem?_set_self (by omega), List.take_set_of_le (by omega)]
      simp
    rw [← e]
    exact a

theorem wl_storeT {ops : Array Oper} {rest : List Oper} {dst : Option Tmp} {x y : Operand} {tp : TypeId} {ps : String} {af} {a : Act} {w : World} {Q : Exit → Act → World → Prop} {T t : TypeId} {b : Nat} {cs vs : List Value} {Z : Array Value}
    (hx : a.eval x = .pointer (some ⟨b, 0, none⟩)) (hy : a.eval y = .agg Z) (hZ : Z = vs.toArray) (hone : ∀ v ∈ vs, v.oneCell' = true) (hsz : (Tryd.prog.info? T).map (·.size) = some vs.length) (hrow : w.heap[b]? = some (rowObj cs t)) (hlen : cs.length = vs.length)
    (h : ∀ w', w'.heap[b]? = some (.cells Z t (0, 0)) ∧ Keep b w w' → wpList Tryd.prog ops Q rest (a.put dst undef) w') : wpList Tryd.prog ops Q (Oper.mk dst (.store T x y) tp ps af none :: rest) a w := by
  subst hZ
  obtain ⟨q1, q2⟩ := set_list vs 0 w cs hrow (by omega)
  refine wpList_store_mid rfl T x y rfl b 0 _ hx hy (fun j hj => ?_) (by simpa using hsz) (all_oneCell_toArray hone) (h _ ⟨?_, q2⟩)
  · have hj' : j < cs.length := by rw [hlen]; simpa using hj
    rw [Nat.zero_add]
    exact ⟨by rw [row_cell hrow j _ (List.getElem?_eq_getElem hj')]; rfl, row_free hrow _⟩
  · rw [List.take_zero, List.nil_append] at q1
    exact q1

theorem wl_loadT {ops : Array Oper} {rest : List Oper} {dst : Option Tmp} {x : Operand} {tp : TypeId} {ps : String} {af} {a : Act} {w : World} {Q : Exit → Act → World → Prop} {T : TypeId} {d : TypeDesc} {b o : Nat} {cs : List Value} {Z : Array Value}
    (hx : a.eval x = .pointer (some ⟨b, o, none⟩)) (hZ : Z = cs.toArray) (hu : Tryd.prog.underlying T = some d) (hd : d.isRow = true) (hsz : (Tryd.prog.info? T).map (·.size) = some cs.length) (hr : w.rangeAt b o cs)
    (h : wpList Tryd.prog ops Q rest (a.put dst (.agg Z)) w) : wpList Tryd.prog ops Q (Oper.mk dst (.load T x) tp ps af none :: rest) a w := by
  subst hZ
  exact wpList_load_mid rfl T x rfl b o hx cs d hr hu hd hsz h

theorem wl_allocT {ops : Array Oper} {rest : List Oper} {dst : Option Tmp} {tp : TypeId} {ps : String} {af} {a : Act} {w : World} {Q : Exit → Act → World → Prop} {T : TypeId} {O : Obj}
    (hO : (Instr.alloc T true (.tuple #[])).run Tryd.prog w = .ok (.pointer (some ⟨w.heap.size, 0, none⟩)) (w.alloc O))
    (h : wpList Tryd.prog ops Q rest (a.put dst (.pointer (some ⟨w.heap.size, 0, none⟩))) (w.alloc O)) : wpList Tryd.prog ops Q (Oper.mk dst (.alloc T) tp ps af none :: rest) a w := by
  refine wpList_plain rfl fun _ hK => ?_
  unfold Oper.wp execOp
  simp only [Sem.run_bind, hO, Result.andThen_ok]
  exact hK _ _ h

theorem allocZ23 (w : World) : (Instr.alloc 23 true (.tuple #[])).run Tryd.prog w = .ok (.pointer (some ⟨w.heap.size, 0, none⟩)) (w.alloc (rowObj (List.replicate 4 (.int .u32 0)) 23)) := by kernel_rfl
theorem sizeZ23 : (Tryd.prog.info? 23).map (·.size) = some 4 := by kernel_rfl
theorem allocZ26 (w : World) : (Instr.alloc 26 true (.tuple #[])).run Tryd.prog w = .ok (.pointer (some ⟨w.heap.size, 0, none⟩)) (w.alloc (rowObj (List.replicate 16 (.int .i32 0)) 26)) := by kernel_rfl
theorem sizeZ26 : (Tryd.prog.info? 26).map (·.size) = some 16 := by kernel_rfl
theorem allocZ29 (w : World) : (Instr.alloc 29 true (.tuple #[])).run Tryd.prog w = .ok (.pointer (some ⟨w.heap.size, 0, none⟩)) (w.alloc (rowObj (List.replicate 64 (.float .f64 0)) 29)) := by kernel_rfl
theorem sizeZ29 : (Tryd.prog.info? 29).map (·.size) = some 64 := by kernel_rfl
theorem allocZ30 (w : World) : (Instr.alloc 30 true (.tuple #[])).run Tryd.prog w = .ok (.pointer (some ⟨w.heap.size, 0, none⟩)) (w.alloc (rowObj (List.replicate 16 (.float .f64 0)) 30)) := by kernel_rfl
theorem sizeZ30 : (Tryd.prog.info? 30).map (·.size) = some 16 := by kernel_rfl
theorem allocZ32 (w : World) : (Instr.alloc 32 true (.tuple #[])).run Tryd.prog w = .ok (.pointer (some ⟨w.heap.size, 0, none⟩)) (w.alloc (rowObj (List.replicate 96 (.int .i16 0)) 32)) := by kernel_rfl
theorem sizeZ32 : (Tryd.prog.info? 32).map (·.size) = some 96 := by kernel_rfl
theorem allocZ28 (w : World) : (Instr.alloc 28 true (.tuple #[])).run Tryd.prog w = .ok (.pointer (some ⟨w.heap.size, 0, none⟩)) (w.alloc (rowObj (List.replicate 4 (.float .f64 0)) 28)) := by kernel_rfl
theorem sizeZ28 : (Tryd.prog.info? 28).map (·.size) = some 4 := by kernel_rfl
theorem allocZ42 (w : World) : (Instr.alloc 42 true (.tuple #[])).run Tryd.prog w = .ok (.pointer (some ⟨w.heap.size, 0, none⟩)) (w.alloc (rowObj (List.replicate 3 (.int .u32 0)) 42)) := by kernel_rfl
theorem sizeZ42 : (Tryd.prog.info? 42).map (·.size) = some 3 := by kernel_rfl
theorem allocZ45 (w : World) : (Instr.alloc 45 true (.tuple #[])).run Tryd.prog w = .ok (.pointer (some ⟨w.heap.size, 0, none⟩)) (w.alloc (rowObj (List.replicate 4 (.int .i16 0)) 45)) := by kernel_rfl
theorem sizeZ45 : (Tryd.prog.info? 45).map (·.size) = some 4 := by kernel_rfl
theorem sizeZ56 : (Tryd.prog.info? 56).map (·.size) = some 3 := by kernel_rfl

set_option maxRecDepth 20000 in
set_option maxHeartbeats 1000000 in
theorem own_any {F : Nat → Value} {Z : Array Value} (hZ : Z = (lay F).toArray) (hF : ∀ j, (F j).oneCell' = true) (w : World) : Calls Tryd.prog 6 #[.agg Z] w fun e w' => e = .returned (.agg (part F 0 4).toArray) ∧ Below w.heap.size w w' := by
  obtain ⟨O, eO⟩ : ∃ O, O = rowObj (List.replicate 4 (.int .u32 0)) 23 := ⟨_, rfl⟩
  have hal : ∀ w : World, (Instr.alloc 23 true (.tuple #[])).run Tryd.prog w = .ok (.pointer (some ⟨w.heap.size, 0, none⟩)) (w.alloc O) := by rw [eO]; exact allocZ23
  have HAL := hide hal
  obtain ⟨W, eW⟩ : ∃ W, W = (w.alloc (.cells Z 36)).alloc O := ⟨_, rfl⟩
  have hrW : W.heap[w.heap.size]? = some (rowObj (lay F) 36) := by
    rw [eW, Below.heap_alloc _ _ _ (by simp), hZ]
    exact heap_alloc_last _ _
  have hqW : W.heap[w.heap.size + 1]? = some (rowObj (List.replicate 4 (.int .u32 0)) 23) := by
    rw [eW, ← eO]
    have := heap_alloc_last (w.alloc (.cells Z 36)) O
    simpa using this
  have hbW : Below w.heap.size w W := by rw [eW]; exact ((Below.refl _ _).alloc (Nat.le_refl _) _).alloc (by simp) _
  have hrg : W.rangeAt w.heap.size 0 (part F 0 4) := part_range hrW 0 4 (by omega)
  have hln : (part F 0 4).length = 4 := part_len _ _ _
  have hone : ∀ v ∈ (part F 0 4), v.oneCell' = true := (fun v hv => by obtain ⟨j, _, rfl⟩ := List.mem_map.1 hv; exact hF _)
  obtain ⟨R, eR⟩ : ∃ R, R = (part F 0 4) := ⟨_, rfl⟩
  rw [← eR] at hrg hln hone ⊢
  obtain ⟨V, eV⟩ : ∃ V, V = R.toArray := ⟨_, rfl⟩
  have hsz : (Tryd.prog.info? 23).map (·.size) = some R.length := by rw [hln]; exact sizeZ23
  have hszl : (Tryd.prog.info? 23).map (·.size) = some R.length := by rw [hln]; exact sizeZ23
  have hcl : (List.replicate 4 (.int .u32 0 : Value)).length = R.length := by rw [hln]; rfl
  rw [← eV]
  have H := hide (And.intro hrg (And.intro hone (And.intro hqW hbW)))
  have HV := hide eV
  clear eR eV hrg hone hrW hqW hbW hal eO hln hZ hF
  go_enter Tryd.func6, Tryd.ntmps6
  go_upto_region 1 with (with_reducible refine wl_allocT (unhide HAL _) ?_)
  rw [← eW]
  clear eW
  go_wp2_with (first | ((with_reducible refine wl_loadT (T := 23) ?hx (unhide HV) Tryd.underlying23 rfl hszl (unhide H).1 ?_); (case hx => rfl)) | ((with_reducible refine wl_storeT (T := 23) ?hx ?hy (unhide HV) (unhide H).2.1 hsz (unhide H).2.2.1 hcl ?_); (case hx => rfl); (case hy => rfl); intro wz hz))
  have hszv : (Tryd.prog.info? 23).map (·.size) = some V.size := by rw [hsz, unhide HV]; simp
  refine bodyPost_ret (results_cell_row rfl _ _ (w.heap.size + 1) 23 V (0, 0) _ rfl hz.1 Tryd.underlying23 rfl hszv) rfl ?_
  have zW := lt_of_heap (unhide H).2.2.1
  exact ⟨rfl, (unhide H).2.2.2.trans (hz.2.toBelow (by omega) (by omega))⟩

set_option maxRecDepth 20000 in
set_option maxHeartbeats 1000000 in
theorem census_any {F : Nat → Value} {Z : Array Value} (hZ : Z = (lay F).toArray) (hF : ∀ j, (F j).oneCell' = true) (w : World) : Calls Tryd.prog 12 #[.agg Z] w fun e w' => e = .returned (.agg (part F 6 16).toArray) ∧ Below w.heap.size w w' := by
  obtain ⟨O, eO⟩ : ∃ O, O = rowObj (List.replicate 16 (.int .i32 0)) 26 := ⟨_, rfl⟩
  have hal : ∀ w : World, (Instr.alloc 26 true (.tuple #[])).run Tryd.prog w = .ok (.pointer (some ⟨w.heap.size, 0, none⟩)) (w.alloc O) := by rw [eO]; exact allocZ26
  have HAL := hide hal
  obtain ⟨W, eW⟩ : ∃ W, W = (w.alloc (.cells Z 36)).alloc O := ⟨_, rfl⟩
  have hrW : W.heap[w.heap.size]? = some (rowObj (lay F) 36) := by
    rw [eW, Below.heap_alloc _ _ _ (by simp), hZ]
    exact heap_alloc_last _ _
  have hqW : W.heap[w.heap.size + 1]? = some (rowObj (List.replicate 16 (.int .i32 0)) 26) := by
    rw [eW, ← eO]
    have := heap_alloc_last (w.alloc (.cells Z 36)) O
    simpa using this
  have hbW : Below w.heap.size w W := by rw [eW]; exact ((Below.refl _ _).alloc (Nat.le_refl _) _).alloc (by simp) _
  have hrg : W.rangeAt w.heap.size 6 (part F 6 16) := part_range hrW 6 16 (by omega)
  have hln : (part F 6 16).length = 16 := part_len _ _ _
  have hone : ∀ v ∈ (part F 6 16), v.oneCell' = true := (fun v hv => by obtain ⟨j, _, rfl⟩ := List.mem_map.1 hv; exact hF _)
  obtain ⟨R, eR⟩ : ∃ R, R = (part F 6 16) := ⟨_, rfl⟩
  rw [← eR] at hrg hln hone ⊢
  obtain ⟨V, eV⟩ : ∃ V, V = R.toArray := ⟨_, rfl⟩
  have hsz : (Tryd.prog.info? 26).map (·.size) = some R.length := by rw [hln]; exact sizeZ26
  have hszl : (Tryd.prog.info? 26).map (·.size) = some R.length := by rw [hln]; exact sizeZ26
  have hcl : (List.replicate 16 (.int .i32 0 : Value)).length = R.length := by rw [hln]; rfl
  rw [← eV]
  have H := hide (And.intro hrg (And.intro hone (And.intro hqW hbW)))
  have HV := hide eV
  clear eR eV hrg hone hrW hqW hbW hal eO hln hZ hF
  go_enter Tryd.func12, Tryd.ntmps12
  go_upto_region 1 with (with_reducible refine wl_allocT (unhide HAL _) ?_)
  rw [← eW]
  clear eW
  go_wp2_with (first | ((with_reducible refine wl_loadT (T := 26) ?hx (unhide HV) Tryd.underlying26 rfl hszl (unhide H).1 ?_); (case hx => rfl)) | ((with_reducible refine wl_storeT (T := 26) ?hx ?hy (unhide HV) (unhide H).2.1 hsz (unhide H).2.2.1 hcl ?_); (case hx => rfl); (case hy => rfl); intro wz hz))
  have hszv : (Tryd.prog.info? 26).map (·.size) = some V.size := by rw [hsz, unhide HV]; simp
  refine bodyPost_ret (results_cell_row rfl _ _ (w.heap.size + 1) 26 V (0, 0) _ rfl hz.1 Tryd.underlying26 rfl hszv) rfl ?_
  have zW := lt_of_heap (unhide H).2.2.1
  exact ⟨rfl, (unhide H).2.2.2.trans (hz.2.toBelow (by omega) (by omega))⟩

set_option maxRecDepth 20000 in
set_option maxHeartbeats 1000000 in
theorem extents_any {F : Nat → Value} {Z : Array Value} (hZ : Z = (lay F).toArray) (hF : ∀ j, (F j).oneCell' = true) (w : World) : Calls Tryd.prog 13 #[.agg Z] w fun e w' => e = .returned (.agg (part F 22 64).toArray) ∧ Below w.heap.size w w' := by
  obtain ⟨O, eO⟩ : ∃ O, O = rowObj (List.replicate 64 (.float .f64 0)) 29 := ⟨_, rfl⟩
  have hal : ∀ w : World, (Instr.alloc 29 true (.tuple #[])).run Tryd.prog w = .ok (.pointer (some ⟨w.heap.size, 0, none⟩)) (w.alloc O) := by rw [eO]; exact allocZ29
  have HAL := hide hal
  obtain ⟨W, eW⟩ : ∃ W, W = (w.alloc (.cells Z 36)).alloc O := ⟨_, rfl⟩
  have hrW : W.heap[w.heap.size]? = some (rowObj (lay F) 36) := by
    rw [eW, Below.heap_alloc _ _ _ (by simp), hZ]
    exact heap_alloc_last _ _
  have hqW : W.heap[w.heap.size + 1]? = some (rowObj (List.replicate 64 (.float .f64 0)) 29) := by
    rw [eW, ← eO]
    have := heap_alloc_last (w.alloc (.cells Z 36)) O
    simpa using this
  have hbW : Below w.heap.size w W := by rw [eW]; exact ((Below.refl _ _).alloc (Nat.le_refl _) _).alloc (by simp) _
  have hrg : W.rangeAt w.heap.size 22 (part F 22 64) := part_range hrW 22 64 (by omega)
  have hln : (part F 22 64).length = 64 := part_len _ _ _
  have hone : ∀ v ∈ (part F 22 64), v.oneCell' = true := (fun v hv => by obtain ⟨j, _, rfl⟩ := List.mem_map.1 hv; exact hF _)
  obtain ⟨R, eR⟩ : ∃ R, R = (part F 22 64) := ⟨_, rfl⟩
  rw [← eR] at hrg hln hone ⊢
  obtain ⟨V, eV⟩ : ∃ V, V = R.toArray := ⟨_, rfl⟩
  have hsz : (Tryd.prog.info? 29).map (·.size) = some R.length := by rw [hln]; exact sizeZ29
  have hszl : (Tryd.prog.info? 29).map (·.size) = some R.length := by rw [hln]; exact sizeZ29
  have hcl : (List.replicate 64 (.float .f64 0 : Value)).length = R.length := by rw [hln]; rfl
  rw [← eV]
  have H := hide (And.intro hrg (And.intro hone (And.intro hqW hbW)))
  have HV := hide eV
  clear eR eV hrg hone hrW hqW hbW hal eO hln hZ hF
  go_enter Tryd.func13, Tryd.ntmps13
  go_upto_region 1 with (with_reducible refine wl_allocT (unhide HAL _) ?_)
  rw [← eW]
  clear eW
  go_wp2_with (first | ((with_reducible refine wl_loadT (T := 29) ?hx (unhide HV) Tryd.underlying29 rfl hszl (unhide H).1 ?_); (case hx => rfl)) | ((with_reducible refine wl_storeT (T := 29) ?hx ?hy (unhide HV) (unhide H).2.1 hsz (unhide H).2.2.1 hcl ?_); (case hx => rfl); (case hy => rfl); intro wz hz))
  have hszv : (Tryd.prog.info? 29).map (·.size) = some V.size := by rw [hsz, unhide HV]; simp
  refine bodyPost_ret (results_cell_row rfl _ _ (w.heap.size + 1) 29 V (0, 0) _ rfl hz.1 Tryd.underlying29 rfl hszv) rfl ?_
  have zW := lt_of_heap (unhide H).2.2.1
  exact ⟨rfl, (unhide H).2.2.2.trans (hz.2.toBelow (by omega) (by omega))⟩

set_option maxRecDepth 20000 in
set_option maxHeartbeats 1000000 in
theorem radii_any {F : Nat → Value} {Z : Array Value} (hZ : Z = (lay F).toArray) (hF : ∀ j, (F j).oneCell' = true) (w : World) : Calls Tryd.prog 14 #[.agg Z] w fun e w' => e = .returned (.agg (part F 86 16).toArray) ∧ Below w.heap.size w w' := by
  obtain ⟨O, eO⟩ : ∃ O, O = rowObj (List.replicate 16 (.float .f64 0)) 30 := ⟨_, rfl⟩
  have hal : ∀ w : World, (Instr.alloc 30 true (.tuple #[])).run Tryd.prog w = .ok (.pointer (some ⟨w.heap.size, 0, none⟩)) (w.alloc O) := by rw [eO]; exact allocZ30
  have HAL := hide hal
  obtain ⟨W, eW⟩ : ∃ W, W = (w.alloc (.cells Z 36)).alloc O := ⟨_, rfl⟩
  have hrW : W.heap[w.heap.size]? = some (rowObj (lay F) 36) := by
    rw [eW, Below.heap_alloc _ _ _ (by simp), hZ]
    exact heap_alloc_last _ _
  have hqW : W.heap[w.heap.size + 1]? = some (rowObj (List.replicate 16 (.float .f64 0)) 30) := by
    rw [eW, ← eO]
    have := heap_alloc_last (w.alloc (.cells Z 36)) O
    simpa using this
  have hbW : Below w.heap.size w W := by rw [eW]; exact ((Below.refl _ _).alloc (Nat.le_refl _) _).alloc (by simp) _
  have hrg : W.rangeAt w.heap.size 86 (part F 86 16) := part_range hrW 86 16 (by omega)
  have hln : (part F 86 16).length = 16 := part_len _ _ _
  have hone : ∀ v ∈ (part F 86 16), v.oneCell' = true := (fun v hv => by obtain ⟨j, _, rfl⟩ := List.mem_map.1 hv; exact hF _)
  obtain ⟨R, eR⟩ : ∃ R, R = (part F 86 16) := ⟨_, rfl⟩
  rw [← eR] at hrg hln hone ⊢
  obtain ⟨V, eV⟩ : ∃ V, V = R.toArray := ⟨_, rfl⟩
  have hsz : (Tryd.prog.info? 30).map (·.size) = some R.length := by rw [hln]; exact sizeZ30
  have hszl : (Tryd.prog.info? 30).map (·.size) = some R.length := by rw [hln]; exact sizeZ30
  have hcl : (List.replicate 16 (.float .f64 0 : Value)).length = R.length := by rw [hln]; rfl
  rw [← eV]
  have H := hide (And.intro hrg (And.intro hone (And.intro hqW hbW)))
  have HV := hide eV
  clear eR eV hrg hone hrW hqW hbW hal eO hln hZ hF
  go_enter Tryd.func14, Tryd.ntmps14
  go_upto_region 1 with (with_reducible refine wl_allocT (unhide HAL _) ?_)
  rw [← eW]
  clear eW
  go_wp2_with (first | ((with_reducible refine wl_loadT (T := 30) ?hx (unhide HV) Tryd.underlying30 rfl hszl (unhide H).1 ?_); (case hx => rfl)) | ((with_reducible refine wl_storeT (T := 30) ?hx ?hy (unhide HV) (unhide H).2.1 hsz (unhide H).2.2.1 hcl ?_); (case hx => rfl); (case hy => rfl); intro wz hz))
  have hszv : (Tryd.prog.info? 30).map (·.size) = some V.size := by rw [hsz, unhide HV]; simp
  refine bodyPost_ret (results_cell_row rfl _ _ (w.heap.size + 1) 30 V (0, 0) _ rfl hz.1 Tryd.underlying30 rfl hszv) rfl ?_
  have zW := lt_of_heap (unhide H).2.2.1
  exact ⟨rfl, (unhide H).2.2.2.trans (hz.2.toBelow (by omega) (by omega))⟩

set_option maxRecDepth 20000 in
set_option maxHeartbeats 1000000 in
theorem on_any {F : Nat → Value} {Z : Array Value} (hZ : Z = (lay F).toArray) (hF : ∀ j, (F j).oneCell' = true) (w : World) : Calls Tryd.prog 16 #[.agg Z] w fun e w' => e = .returned (.agg (part F 102 96).toArray) ∧ Below w.heap.size w w' := by
  obtain ⟨O, eO⟩ : ∃ O, O = rowObj (List.replicate 96 (.int .i16 0)) 32 := ⟨_, rfl⟩
  have hal : ∀ w : World, (Instr.alloc 32 true (.tuple #[])).run Tryd.prog w = .ok (.pointer (some ⟨w.heap.size, 0, none⟩)) (w.alloc O) := by rw [eO]; exact allocZ32
  have HAL := hide hal
  obtain ⟨W, eW⟩ : ∃ W, W = (w.alloc (.cells Z 36)).alloc O := ⟨_, rfl⟩
  have hrW : W.heap[w.heap.size]? = some (rowObj (lay F) 36) := by
    rw [eW, Below.heap_alloc _ _ _ (by simp), hZ]
    exact heap_alloc_last _ _
  have hqW : W.heap[w.heap.size + 1]? = some (rowObj (List.replicate 96 (.int .i16 0)) 32) := by
    rw [eW, ← eO]
    have := heap_alloc_last (w.alloc (.cells Z 36)) O
    simpa using this
  have hbW : Below w.heap.size w W := by rw [eW]; exact ((Below.refl _ _).alloc (Nat.le_refl _) _).alloc (by simp) _
  have hrg : W.rangeAt w.heap.size 102 (part F 102 96) := part_range hrW 102 96 (by omega)
  have hln : (part F 102 96).length = 96 := part_len _ _ _
  have hone : ∀ v ∈ (part F 102 96), v.oneCell' = true := (fun v hv => by obtain ⟨j, _, rfl⟩ := List.mem_map.1 hv; exact hF _)
  obtain ⟨R, eR⟩ : ∃ R, R = (part F 102 96) := ⟨_, rfl⟩
  rw [← eR] at hrg hln hone ⊢
  obtain ⟨V, eV⟩ : ∃ V, V = R.toArray := ⟨_, rfl⟩
  have hsz : (Tryd.prog.info? 32).map (·.size) = some R.length := by rw [hln]; exact sizeZ32
  have hszl : (Tryd.prog.info? 32).map (·.size) = some R.length := by rw [hln]; exact sizeZ32
  have hcl : (List.replicate 96 (.int .i16 0 : Value)).length = R.length := by rw [hln]; rfl
  rw [← eV]
  have H := hide (And.intro hrg (And.intro hone (And.intro hqW hbW)))
  have HV := hide eV
  clear eR eV hrg hone hrW hqW hbW hal eO hln hZ hF
  go_enter Tryd.func16, Tryd.ntmps16
  go_upto_region 1 with (with_reducible refine wl_allocT (unhide HAL _) ?_)
  rw [← eW]
  clear eW
  go_wp2_with (first | ((with_reducible refine wl_loadT (T := 32) ?hx (unhide HV) Tryd.underlying32 rfl hszl (unhide H).1 ?_); (case hx => rfl)) | ((with_reducible refine wl_storeT (T := 32) ?hx ?hy (unhide HV) (unhide H).2.1 hsz (unhide H).2.2.1 hcl ?_); (case hx => rfl); (case hy => rfl); intro wz hz))
  have hszv : (Tryd.prog.info? 32).map (·.size) = some V.size := by rw [hsz, unhide HV]; simp
  refine bodyPost_ret (results_cell_row rfl _ _ (w.heap.size + 1) 32 V (0, 0) _ rfl hz.1 Tryd.underlying32 rfl hszv) rfl ?_
  have zW := lt_of_heap (unhide H).2.2.1
  exact ⟨rfl, (unhide H).2.2.2.trans (hz.2.toBelow (by omega) (by omega))⟩

set_option maxRecDepth 20000 in
set_option maxHeartbeats 1000000 in
theorem vcount_any {F : Nat → Value} {Z : Array Value} (hZ : Z = (lay F).toArray) {oa : Option Addr} {n cap : Nat} (hi : F 5 = .slice oa n cap) (w : World) : Calls Tryd.prog 7 #[.agg Z] w fun e w' => e = .returned (.int .i64 n) ∧ Below w.heap.size w w' := by
  obtain ⟨W, eW⟩ : ∃ W, W = w.alloc (.cells Z 36) := ⟨_, rfl⟩
  have hrW : W.heap[w.heap.size]? = some (rowObj (lay F) 36) := by
    rw [eW, hZ]
    exact heap_alloc_last _ _
  have hbW : Below w.heap.size w W := by rw [eW]; exact (Below.refl _ _).alloc (Nat.le_refl _) _
  have c := row_cell hrW 5 _ (lay_at _ (by omega))
  rw [hi] at c
  clear hZ hrW hi
  go_enter Tryd.func7, Tryd.ntmps7
  go_upto_region 1 with fail
  rw [← eW]
  clear eW
  go_wp2
  go_ret
  exact ⟨rfl, hbW⟩

set_option maxRecDepth 20000 in
set_option maxHeartbeats 1000000 in
theorem reach_any {F : Nat → Value} {Z : Array Value} (hZ : Z = (lay F).toArray) {x : Nat} (hi : F 198 = .float .f64 x) (w : World) : Calls Tryd.prog 15 #[.agg Z] w fun e w' => e = .returned (.float .f64 x) ∧ Below w.heap.size w w' := by
  obtain ⟨W, eW⟩ : ∃ W, W = w.alloc (.cells Z 36) := ⟨_, rfl⟩
  have hrW : W.heap[w.heap.size]? = some (rowObj (lay F) 36) := by
    rw [eW, hZ]
    exact heap_alloc_last _ _
  have hbW : Below w.heap.size w W := by rw [eW]; exact (Below.refl _ _).alloc (Nat.le_refl _) _
  have c := row_cell hrW 198 _ (lay_at _ (by omega))
  rw [hi] at c
  clear hZ hrW hi
  go_enter Tryd.func15, Tryd.ntmps15
  go_upto_region 1 with fail
  rw [← eW]
  clear eW
  go_wp2
  go_ret
  exact ⟨rfl, hbW⟩

set_option maxRecDepth 20000 in
set_option maxHeartbeats 1000000 in
theorem pcount_any {F : Nat → Value} {Z : Array Value} (hZ : Z = (lay F).toArray) {oa : Option Addr} {n cap : Nat} (hi : F 4 = .slice oa n cap) (w : World) : Calls Tryd.prog 17 #[.agg Z] w fun e w' => e = .returned (.int .i64 n) ∧ Below w.heap.size w w' := by
  obtain ⟨W, eW⟩ : ∃ W, W = w.alloc (.cells Z 36) := ⟨_, rfl⟩
  have hrW : W.heap[w.heap.size]? = some (rowObj (lay F) 36) := by
    rw [eW, hZ]
    exact heap_alloc_last _ _
  have hbW : Below w.heap.size w W := by rw [eW]; exact (Below.refl _ _).alloc (Nat.le_refl _) _
  have c := row_cell hrW 4 _ (lay_at _ (by omega))
  rw [hi] at c
  clear hZ hrW hi
  go_enter Tryd.func17, Tryd.ntmps17
  go_upto_region 1 with fail
  rw [← eW]
  clear eW
  go_wp2
  go_ret
  exact ⟨rfl, hbW⟩

set_option maxRecDepth 20000 in
set_option maxHeartbeats 1000000 in
theorem members_any {F : Nat → Value} {Z : Array Value} (hZ : Z = (lay F).toArray) (hi : F 199 = .slice none 0 0) (w : World) : Calls Tryd.prog 20 #[.agg Z] w fun e w' => e = .returned (.int .i64 0) ∧ Below w.heap.size w w' := by
  obtain ⟨W, eW⟩ : ∃ W, W = w.alloc (.cells Z 36) := ⟨_, rfl⟩
  have hrW : W.heap[w.heap.size]? = some (rowObj (lay F) 36) := by
    rw [eW, hZ]
    exact heap_alloc_last _ _
  have hbW : Below w.heap.size w W := by rw [eW]; exact (Below.refl _ _).alloc (Nat.le_refl _) _
  have c := row_cell hrW 199 _ (lay_at _ (by omega))
  rw [hi] at c
  clear hZ hrW hi
  go_enter Tryd.func20, Tryd.ntmps20
  go_upto_region 1 with fail
  rw [← eW]
  clear eW
  go_wp2
  go_ret
  exact ⟨rfl, hbW⟩

set_option maxRecDepth 20000 in
set_option maxHeartbeats 1000000 in
theorem pending_any {F : Nat → Value} {Z : Array Value} (hZ : Z = (lay F).toArray) (hi : F 203 = .slice none 0 0) (w : World) : Calls Tryd.prog 21 #[.agg Z] w fun e w' => e = .returned (.int .i64 0) ∧ Below w.heap.size w w' := by
  obtain ⟨W, eW⟩ : ∃ W, W = w.alloc (.cells Z 36) := ⟨_, rfl⟩
  have hrW : W.heap[w.heap.size]? = some (rowObj (lay F) 36) := by
    rw [eW, hZ]
    exact heap_alloc_last _ _
  have hbW : Below w.heap.size w W := by rw [eW]; exact (Below.refl _ _).alloc (Nat.le_refl _) _
  have c := row_cell hrW 203 _ (lay_at _ (by omega))
  rw [hi] at c
  clear hZ hrW hi
  go_enter Tryd.func21, Tryd.ntmps21
  go_upto_region 1 with fail
  rw [← eW]
  clear eW
  go_wp2
  go_ret
  exact ⟨rfl, hbW⟩

set_option maxRecDepth 20000 in
set_option maxHeartbeats 1000000 in
theorem waiting_any {F : Nat → Value} {Z : Array Value} (hZ : Z = (lay F).toArray) (hi : F 204 = .map none) (w : World) : Calls Tryd.prog 22 #[.agg Z] w fun e w' => e = .returned (.int .i64 0) ∧ Below w.heap.size w w' := by
  obtain ⟨W, eW⟩ : ∃ W, W = w.alloc (.cells Z 36) := ⟨_, rfl⟩
  have hrW : W.heap[w.heap.size]? = some (rowObj (lay F) 36) := by
    rw [eW, hZ]
    exact heap_alloc_last _ _
  have hbW : Below w.heap.size w W := by rw [eW]; exact (Below.refl _ _).alloc (Nat.le_refl _) _
  have c := row_cell hrW 204 _ (lay_at _ (by omega))
  rw [hi] at c
  clear hZ hrW hi
  go_enter Tryd.func22, Tryd.ntmps22
  go_upto_region 1 with fail
  rw [← eW]
  clear eW
  go_wp2
  go_ret
  exact ⟨rfl, hbW⟩

set_option maxRecDepth 20000 in
set_option maxHeartbeats 1000000 in
theorem linked_any {F : Nat → Value} {Z : Array Value} (hZ : Z = (lay F).toArray) {b : Bool} (hi : F 200 = .bool b) (w : World) : Calls Tryd.prog 23 #[.agg Z] w fun e w' => e = .returned (.bool b) ∧ Below w.heap.size w w' := by
  obtain ⟨W, eW⟩ : ∃ W, W = w.alloc (.cells Z 36) := ⟨_, rfl⟩
  have hrW : W.heap[w.heap.size]? = some (rowObj (lay F) 36) := by
    rw [eW, hZ]
    exact heap_alloc_last _ _
  have hbW : Below w.heap.size w W := by rw [eW]; exact (Below.refl _ _).alloc (Nat.le_refl _) _
  have c := row_cell hrW 200 _ (lay_at _ (by omega))
  rw [hi] at c
  clear hZ hrW hi
  go_enter Tryd.func23, Tryd.ntmps23
  go_upto_region 1 with fail
  rw [← eW]
  clear eW
  go_wp2
  go_ret
  exact ⟨rfl, hbW⟩

set_option maxRecDepth 20000 in
set_option maxHeartbeats 1000000 in
theorem gathering_any {F : Nat → Value} {Z : Array Value} (hZ : Z = (lay F).toArray) {b : Bool} (hi : F 201 = .bool b) (w : World) : Calls Tryd.prog 24 #[.agg Z] w fun e w' => e = .returned (.bool b) ∧ Below w.heap.size w w' := by
  obtain ⟨W, eW⟩ : ∃ W, W = w.alloc (.cells Z 36) := ⟨_, rfl⟩
  have hrW : W.heap[w.heap.size]? = some (rowObj (lay F) 36) := by
    rw [eW, hZ]
    exact heap_alloc_last _ _
  have hbW : Below w.heap.size w W := by rw [eW]; exact (Below.refl _ _).alloc (Nat.le_refl _) _
  have c := row_cell hrW 201 _ (lay_at _ (by omega))
  rw [hi] at c
  clear hZ hrW hi
  go_enter Tryd.func24, Tryd.ntmps24
  go_upto_region 1 with fail
  rw [← eW]
  clear eW
  go_wp2
  go_ret
  exact ⟨rfl, hbW⟩

set_option maxRecDepth 20000 in
set_option maxHeartbeats 1000000 in
theorem sure_any {F : Nat → Value} {Z : Array Value} (hZ : Z = (lay F).toArray) {b : Bool} (hi : F 202 = .bool b) (w : World) : Calls Tryd.prog 25 #[.agg Z] w fun e w' => e = .returned (.bool b) ∧ Below w.heap.size w w' := by
  obtain ⟨W, eW⟩ : ∃ W, W = w.alloc (.cells Z 36) := ⟨_, rfl⟩
  have hrW : W.heap[w.heap.size]? = some (rowObj (lay F) 36) := by
    rw [eW, hZ]
    exact heap_alloc_last _ _
  have hbW : Below w.heap.size w W := by rw [eW]; exact (Below.refl _ _).alloc (Nat.le_refl _) _
  have c := row_cell hrW 202 _ (lay_at _ (by omega))
  rw [hi] at c
  clear hZ hrW hi
  go_enter Tryd.func25, Tryd.ntmps25
  go_upto_region 1 with fail
  rw [← eW]
  clear eW
  go_wp2
  go_ret
  exact ⟨rfl, hbW⟩

end Go.Proofs.Qxb6614855aDoor
