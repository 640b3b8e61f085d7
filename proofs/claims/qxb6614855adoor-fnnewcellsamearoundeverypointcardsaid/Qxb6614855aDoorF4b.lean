/- The second law, whole. -/
import Derived.Test.Qxb6614855aDoorF4a
import Derived.Test.Qxb6614855aDoorF3f
namespace Go.Proofs.Qxb6614855aDoor
open Go.RowKit

theorem Cell.more {F : Nat → Value} {b3 bp bv B B' : Nat} {w : World} (h : Cell F b3 bp bv B w) (hb : B ≤ B') : Cell F b3 bp bv B' w :=
  ⟨Nat.lt_of_lt_of_le h.l3 hb, Nat.lt_of_lt_of_le h.lp hb, Nat.lt_of_lt_of_le h.lv hb, h.row, h.pls, h.crn⟩

/-- A new cell, stored: from the world behind ZZnewCell. -/
theorem cell_of {x : Nat → Int} {bp bv cap : Nat} {wy w3 : World} {ZO : Obj} (hp : wy.heap[bp]? = some (rowObj planesL 61)) (hV : Corners bv wy) (h3 : w3.heap[wy.heap.size]? = some (rowObj (lay (newF x bp bv cap)) 36) ∧ Keep wy.heap.size (wy.alloc ZO) w3) :
    Cell (newF x bp bv cap) wy.heap.size bp bv w3.heap.size w3 ∧ Below wy.heap.size wy w3 := by
  have z3 : wy.heap.size + 1 ≤ w3.heap.size := by have := h3.2.size; simp at this; omega
  have by3 : Below wy.heap.size wy w3 := ((Below.refl _ _).alloc (Nat.le_refl _) _).trans (h3.2.toBelow (Nat.le_refl _) (by simp))
  have lp := lt_of_heap hp
  have lv : bv < wy.heap.size := lt_of_cell (hV 0 0 _ (by omega) rfl)
  exact ⟨⟨by omega, by omega, by omega, h3.1, (by3.block bp lp).trans hp, hV.below by3⟩, by3⟩

set_option maxRecDepth 100000 in
set_option maxHeartbeats 8000000 in
theorem law4 (x y : Nat → Int) (w : World) (hT : TabAt 0 Lib.deBruijn32tab w) (hs : 0 < w.heap.size) : Calls Tryd.prog 4 #[.agg (ownA x), .agg (ownA y)] w fun e w' => e = .returned (.bool true) ∧ Below w.heap.size w w' := by
  obtain ⟨W0, eW0⟩ : ∃ W0, W0 = (w.alloc (.cells (ownA x) 23)).alloc (.cells (ownA y) 23) := ⟨_, rfl⟩
  have hb0 : Below w.heap.size w W0 := by rw [eW0]; exact ((Below.refl _ _).alloc (Nat.le_refl _) _).alloc (by simp) _
  have hz0 : W0.heap.size = w.heap.size + 2 := by rw [eW0]; simp
  have ra : W0.heap[w.heap.size]? = some (rowObj (ownA x).toList 23) := by
    rw [eW0, Below.heap_alloc _ _ _ (by simp)]
    exact heap_alloc_last _ _
  have rb : W0.heap[w.heap.size + 1]? = some (rowObj (ownA y).toList 23) := by
    rw [eW0]
    have h := heap_alloc_last (w.alloc (.cells (ownA x) 23)) (.cells (ownA y) 23)
    have e : (w.alloc (.cells (ownA x) 23)).heap.size = w.heap.size + 1 := by simp
    rw [e] at h
    exact h
  have hT0 : TabAt 0 Lib.deBruijn32tab W0 := fun i hi => (World.cell?_of_block (w := w) (hb0.block 0 hs)).trans (hT i hi)
  have hn := zz_any x W0 hT0 (by omega)
  have hrg : W0.rangeAt w.heap.size 0 (ownA x).toList := fun j v hj => by rw [Nat.zero_add]; exact row_cell ra j v hj
  obtain ⟨OA, eOA⟩ : ∃ O, O = ownA x := ⟨_, rfl⟩
  obtain ⟨OB, eOB⟩ : ∃ O, O = ownA y := ⟨_, rfl⟩
  have hOA : OA = (ownA x).toList.toArray := by rw [eOA]
  have hOB : OB = (ownA y).toList.toArray := by rw [eOB]
  have hszA : (Tryd.prog.info? 23).map (·.size) = some (ownA x).toList.length := by rw [sizeZ23]; rfl
  have hszB : (Tryd.prog.info? 23).map (·.size) = some (ownA y).toList.length := by rw [sizeZ23]; rfl
  have HRAB := hide (And.intro ra rb)
  obtain ⟨LA, eLA⟩ : ∃ OL, OL = (ownA x).toList := ⟨_, rfl⟩
  obtain ⟨LB, eLB⟩ : ∃ OL, OL = (ownA y).toList := ⟨_, rfl⟩
  rw [← eOA, ← eOB] at eW0 ⊢
  rw [← eOA] at hn
  rw [← eLA] at hOA hszA hrg
  rw [← eLB] at hOB hszB
  have H0 := hide (And.intro hn (And.intro hb0 hrg))
  have HOA := hide hOA
  have HOB := hide hOB
  have HLB := hide eLB
  have HA := hide eOA
  have HB := hide eOB
  have HT := hide hT
  obtain ⟨ZO, eZO⟩ : ∃ ZO, ZO = rowObj (lay zeroF) 36 := ⟨_, rfl⟩
  have HZO := hide eZO
  have HZO2 := hide (fun w2 : World => (show (w2.alloc ZO).heap[w2.heap.size]? = some (rowObj (lay zeroF) 36) from by rw [← eZO]; exact heap_alloc_last _ _))
  clear hT hT0 hb0 ra rb hrg hn eOA eOB eLA eLB hOA hOB eZO
  go_enter Tryd.func4, Tryd.ntmps4
  go_upto_region 1 with fail
  rw [← eW0]
  clear eW0
  go_upto_region 2 with (first | ((with_reducible refine wl_loadT (T := 23) ?hx (unhide HOA) Tryd.underlying23 rfl hszA (unhide H0).2.2 ?_); (case hx => rfl)) | (go_at_call 5; refine (unhide H0).1.mono ?_; rintro e wy ⟨bp, bv, cap, rfl, hp, hV, hb⟩; obtain ⟨Z, eZ⟩ : ∃ Z, Z = (lay (newF x bp bv cap)).toArray := ⟨_, rfl⟩; rw [← eZ]; have HZ := hide eZ; clear eZ; have H1 := hide (And.intro hp (And.intro hV hb)); clear hp hV hb) | (with_reducible refine wl_alloc (unhide HZO) ?_) | ((with_reducible refine wl_store (b3 := wy.heap.size) (f := newF x bp bv cap) (g := zeroF) ?hx ?hy (unhide HZ) (newF_one x bp bv cap) (unhide HZO2 wy) ?_); (case hx => rfl); (case hy => rfl); intro w3 h3))
  obtain ⟨c3, by3⟩ := cell_of (unhide H1).1 (unhide H1).2.1 h3
  have hyz := (unhide H1).2.2.size
  have b03 : Below W0.heap.size W0 w3 := (unhide H1).2.2.trans (by3.mono hyz)
  have bw3 : Below w.heap.size w w3 := (unhide H0).2.1.trans (b03.mono (by omega))
  have ra3 : w3.heap[w.heap.size]? = some (rowObj (ownA x).toList 23) := (b03.block _ (by omega)).trans (unhide HRAB).1
  have rb3 : w3.heap[w.heap.size + 1]? = some (rowObj (ownA y).toList 23) := (b03.block _ (by omega)).trans (unhide HRAB).2
  have hT3 : TabAt 0 Lib.deBruijn32tab w3 := fun i hi => (World.cell?_of_block (w := w) (bw3.block 0 hs)).trans (unhide HT i hi)
  have hz3 : 0 < w3.heap.size := by have := bw3.size; omega
  have hn2 := zz_any y w3 hT3 hz3
  have hrg2 : w3.rangeAt (w.heap.size + 1) 0 LB := by rw [unhide HLB]; exact fun j v hj => by rw [Nat.zero_add]; exact row_cell rb3 j v hj
  rw [← unhide HB] at hn2
  obtain ⟨b5, e5⟩ : ∃ b, b = wy.heap.size := ⟨_, rfl⟩
  rw [← e5] at c3 ⊢
  have H3 := hide (And.intro hn2 (And.intro hrg2 (And.intro c3 (And.intro bw3 (And.intro ra3 rb3)))))
  clear h3 c3 by3 b03 bw3 ra3 rb3 hT3 hn2 hrg2 e5 hyz hz3
  go_upto_region 3 with (first | ((with_reducible refine wl_loadT (T := 23) ?hx (unhide HOB) Tryd.underlying23 rfl hszB (unhide H3).2.1 ?_); (case hx => rfl)) | (go_at_call 5; refine (unhide H3).1.mono ?_; rintro e wq ⟨bp', bv', cap', rfl, hp, hV, hb⟩; obtain ⟨Y, eY⟩ : ∃ Z, Z = (lay (newF y bp' bv' cap')).toArray := ⟨_, rfl⟩; rw [← eY]; have HY := hide eY; clear eY; have H4 := hide (And.intro hp (And.intro hV hb)); clear hp hV hb) | (with_reducible refine wl_alloc (unhide HZO) ?_) | ((with_reducible refine wl_store (b3 := wq.heap.size) (f := newF y bp' bv' cap') (g := zeroF) ?hx ?hy (unhide HY) (newF_one y bp' bv' cap') (unhide HZO2 wq) ?_); (case hx => rfl); (case hy => rfl); intro w6 h6))
  obtain ⟨c6, by6⟩ := cell_of (unhide H4).1 (unhide H4).2.1 h6
  have hqz := (unhide H4).2.2.size
  have b36 : Below w3.heap.size w3 w6 := (unhide H4).2.2.trans (by6.mono hqz)
  have bw6 : Below w.heap.size w w6 := (unhide H3).2.2.2.1.trans (b36.mono (unhide H3).2.2.2.1.size)
  have c5 := ((unhide H3).2.2.1.below b36).more b36.size
  have ra6 : w6.heap[w.heap.size]? = some (rowObj (ownA x).toList 23) := (b36.block _ (lt_of_heap (unhide H3).2.2.2.2.1)).trans (unhide H3).2.2.2.2.1
  have rb6 : w6.heap[w.heap.size + 1]? = some (rowObj (ownA y).toList 23) := (b36.block _ (lt_of_heap (unhide H3).2.2.2.2.2)).trans (unhide H3).2.2.2.2.2
  obtain ⟨b6, e6⟩ : ∃ b, b = wq.heap.size := ⟨_, rfl⟩
  rw [← e6] at c6 ⊢
  obtain ⟨F, eF⟩ : ∃ F, F = newF x bp bv cap := ⟨_, rfl⟩
  obtain ⟨G, eG⟩ : ∃ F, F = newF y bp' bv' cap' := ⟨_, rfl⟩
  rw [← eF] at HZ c5
  rw [← eG] at HY c6
  have hP : Pair F G Z Y b5 bp bv cap b6 bp' bv' cap' w6 := ⟨unhide HZ, unhide HY, c5, c6, by rw [eF]; exact new_5 _ _ _ _, by rw [eG]; exact new_5 _ _ _ _, by rw [eF]; exact new_4 _ _ _ _, by rw [eG]; exact new_4 _ _ _ _⟩
  have HP := hide hP
  have f1 : ∀ j, (F j).oneCell' = true := by rw [eF]; exact newF_one x bp bv cap
  have g1 : ∀ j, (G j).oneCell' = true := by rw [eG]; exact newF_one y bp' bv' cap'
  have Hf := hide (And.intro f1 g1)
  have owF : (part F 0 4).toArray = ownA x := by rw [eF, new_own]
  have owG : (part G 0 4).toArray = ownA y := by rw [eG, new_own]
  have H6 := hide (And.intro bw6 (And.intro ra6 rb6))
  have Hw := hide (And.intro owF owG)
  have EF := hide eF
  have EG := hide eG
  clear h6 c6 by6 b36 bw6 c5 ra6 rb6 e6 eF eG hP f1 g1 owF owG hqz HZO HZO2
  refine reg_f4_3 (S := fun v => Below w6.heap.size w6 v) (P2 := .pointer (some ⟨w.heap.size, 0, none⟩)) (P3 := .pointer (some ⟨w.heap.size + 1, 0, none⟩)) (P5 := .pointer (some ⟨b5, 0, none⟩)) (P6 := .pointer (some ⟨b6, 0, none⟩)) (L36_5 := .agg Z) (L36_6 := .agg Y) (L23_2 := .agg (ownA x)) (L23_3 := .agg (ownA y)) (V16 := .agg (ownA x)) (V21 := .agg (ownA y)) rfl rfl rfl rfl rfl (fun v h => h.drew)
    (unhide HP).l5
    (fun v h => load_atT (t := 23) (cs := (ownA x).toList) Tryd.underlying23 rfl sizeZ23 ((h.block _ (lt_of_heap (unhide H6).2.1)).trans (unhide H6).2.1))
    (fun v h => to_S h (by have q := own_any (unhide HP).hZ (unhide Hf).1 v; rw [(unhide Hw).1] at q; exact q))
    (fun v => guard23 _ _ _ _ v) (fun v => neq23 x v)
    (unhide HP).l6
    (fun v h => load_atT (t := 23) (cs := (ownA y).toList) Tryd.underlying23 rfl sizeZ23 ((h.block _ (lt_of_heap (unhide H6).2.2)).trans (unhide H6).2.2))
    (fun v h => to_S h (by have q := own_any (unhide HP).hY (unhide Hf).2 v; rw [(unhide Hw).2] at q; exact q))
    (fun v => guard23 _ _ _ _ v) (fun v => neq23 y v) (Below.refl _ _) ?_
  intro w7 h7
  have H7 := hide (show Below w6.heap.size w6 w7 from h7)
  clear h7
  simp only [Act.put, List.setIfInBounds_toArray, List.set_cons_zero, List.set_cons_succ]
  rw [← unhide HA, ← unhide HB]
  have Hv7 := hide (vcount_any (unhide HP).hZ (unhide HP).f5 w7)
  go_upto_region 6 with (first | ((with_reducible refine wl_load (b3 := b5) (f := F) ?hx (unhide HP).hZ ((unhide HP).c5.below (unhide H7)).row ?_); (case hx => rfl)) | (go_at_call 7; refine (unhide Hv7).mono ?_; rintro e w8 ⟨rfl, hb8⟩))
  have H8 := hide ((unhide H7).trans (hb8.mono (unhide H7).size))
  clear hb8
  have Hv8 := hide (vcount_any (unhide HP).hY (unhide HP).g5 w8)
  go_upto_block 0 with (first | ((with_reducible refine wl_loadG (b3 := b6) (f := G) (d := 29) ?hx ?hd ?hs ?he (unhide HP).hY ((unhide HP).c6.below (unhide H8)).row ?_); (case hx => rfl); (case hd => rfl); (case hs => exact (by decide : 29 < 155)); (case he => rfl)) | (go_at_call 7; refine (unhide Hv8).mono ?_; rintro e w9 ⟨rfl, hb9⟩))
  have H9 := hide ((unhide H8).trans (hb9.mono (unhide H8).size))
  clear hb9
  refine pairsLoop (unhide HP) (unhide H9) ?_
  intro u4 u35 u36 u37 u38 u39 u40 u41 u42 u43 u44 u45 u46 u47 u48 u49 u50 u51 u52 u53 u54 u55 u56 u57 u58 u59 u60 u61 u62 u63 u64 u65 u66 u67 wx hx
  dsimp only
  have Hwx := hide hx
  clear hx

  obtain ⟨A19, eA19⟩ : ∃ A : Value, A = Value.agg (List.replicate 16 (Value.int .i32 1)).toArray := ⟨_, rfl⟩
  have HP19 : Hid ((∀ v, Below w6.heap.size w6 v → Calls Tryd.prog 12 #[.agg Z] v fun e v' => e = .returned A19 ∧ Below w6.heap.size w6 v') ∧ (∀ v, Below w6.heap.size w6 v → Calls Tryd.prog 12 #[.agg Y] v fun e v' => e = .returned A19 ∧ Below w6.heap.size w6 v') ∧
      (∀ v, (binOp .neq 26 A19 A19).run Tryd.prog v = .ok (.bool false) v) ∧ ∀ (x y : Operand) v, (eqGuard .neq 26 x y A19 A19).run Tryd.prog v = .ok () v) := by
    rw [eA19]
    exact ⟨fun v h => to_S h ((by have h := census_any (unhide HP).hZ (unhide Hf).1 v; rw [unhide EF, new_census] at h; exact h)), fun v h => to_S h ((by have h := census_any (unhide HP).hY (unhide Hf).2 v; rw [unhide EG, new_census] at h; exact h)), fun v => neq26 v, fun x y v => guard26 x y _ _ v⟩
  clear eA19
  go_upto_region 19 with fail
  refine reg_f4_19 (S := fun v => Below w6.heap.size w6 v) (P5 := .pointer (some ⟨b5, 0, none⟩)) (P6 := .pointer (some ⟨b6, 0, none⟩)) (L36_5 := .agg Z) (L36_6 := .agg Y) (V69 := A19) (V71 := A19) rfl rfl rfl (fun v h => h.drew) (unhide HP).l5 (unhide HP).l6 (unhide HP19).1 (unhide HP19).2.1 (fun v => (unhide HP19).2.2.2 _ _ v) (unhide HP19).2.2.1 (unhide Hwx) ?_
  intro wa hwa
  have Hwa := hide (show Below w6.heap.size w6 wa from hwa)
  clear hwa
  simp only [Act.put, List.setIfInBounds_toArray, List.set_cons_zero, List.set_cons_succ]

  obtain ⟨A21, eA21⟩ : ∃ A : Value, A = Value.agg (List.replicate 64 (Value.float .f64 4746794007248502784)).toArray := ⟨_, rfl⟩
  have HP21 : Hid ((∀ v, Below w6.heap.size w6 v → Calls Tryd.prog 13 #[.agg Z] v fun e v' => e = .returned A21 ∧ Below w6.heap.size w6 v') ∧ (∀ v, Below w6.heap.size w6 v → Calls Tryd.prog 13 #[.agg Y] v fun e v' => e = .returned A21 ∧ Below w6.heap.size w6 v') ∧
      (∀ v, (binOp .neq 29 A21 A21).run Tryd.prog v = .ok (.bool false) v) ∧ ∀ (x y : Operand) v, (eqGuard .neq 29 x y A21 A21).run Tryd.prog v = .ok () v) := by
    rw [eA21]
    exact ⟨fun v h => to_S h ((by have h := extents_any (unhide HP).hZ (unhide Hf).1 v; rw [unhide EF, new_extents] at h; exact h)), fun v h => to_S h ((by have h := extents_any (unhide HP).hY (unhide Hf).2 v; rw [unhide EG, new_extents] at h; exact h)), fun v => neq29 v, fun x y v => guard29 x y _ _ v⟩
  clear eA21
  go_upto_region 21 with fail
  refine reg_f4_21 (S := fun v => Below w6.heap.size w6 v) (P5 := .pointer (some ⟨b5, 0, none⟩)) (P6 := .pointer (some ⟨b6, 0, none⟩)) (L36_5 := .agg Z) (L36_6 := .agg Y) (V74 := A21) (V76 := A21) rfl rfl rfl (fun v h => h.drew) (unhide HP).l5 (unhide HP).l6 (unhide HP21).1 (unhide HP21).2.1 (fun v => (unhide HP21).2.2.2 _ _ v) (unhide HP21).2.2.1 (unhide Hwa) ?_
  intro wb hwb
  have Hwb := hide (show Below w6.heap.size w6 wb from hwb)
  clear hwb
  simp only [Act.put, List.setIfInBounds_toArray, List.set_cons_zero, List.set_cons_succ]

  obtain ⟨A23, eA23⟩ : ∃ A : Value, A = Value.agg (List.replicate 16 (Value.float .f64 4895412794951729152)).toArray := ⟨_, rfl⟩
  have HP23 : Hid ((∀ v, Below w6.heap.size w6 v → Calls Tryd.prog 14 #[.agg Z] v fun e v' => e = .returned A23 ∧ Below w6.heap.size w6 v') ∧ (∀ v, Below w6.heap.size w6 v → Calls Tryd.prog 14 #[.agg Y] v fun e v' => e = .returned A23 ∧ Below w6.heap.size w6 v') ∧
      (∀ v, (binOp .neq 30 A23 A23).run Tryd.prog v = .ok (.bool false) v) ∧ ∀ (x y : Operand) v, (eqGuard .neq 30 x y A23 A23).run Tryd.prog v = .ok () v) := by
    rw [eA23]
    exact ⟨fun v h => to_S h ((by have h := radii_any (unhide HP).hZ (unhide Hf).1 v; rw [unhide EF, new_radii] at h; exact h)), fun v h => to_S h ((by have h := radii_any (unhide HP).hY (unhide Hf).2 v; rw [unhide EG, new_radii] at h; exact h)), fun v => neq30 v, fun x y v => guard30 x y _ _ v⟩
  clear eA23
  go_upto_region 23 with fail
  refine reg_f4_23 (S := fun v => Below w6.heap.size w6 v) (P5 := .pointer (some ⟨b5, 0, none⟩)) (P6 := .pointer (some ⟨b6, 0, none⟩)) (L36_5 := .agg Z) (L36_6 := .agg Y) (V79 := A23) (V81 := A23) rfl rfl rfl (fun v h => h.drew) (unhide HP).l5 (unhide HP).l6 (unhide HP23).1 (unhide HP23).2.1 (fun v => (unhide HP23).2.2.2 _ _ v) (unhide HP23).2.2.1 (unhide Hwb) ?_
  intro wc hwc
  have Hwc := hide (show Below w6.heap.size w6 wc from hwc)
  clear hwc
  simp only [Act.put, List.setIfInBounds_toArray, List.set_cons_zero, List.set_cons_succ]

  have Hr := hide (And.intro (fun v => reach_any (unhide HP).hZ (by rw [unhide EF]; exact new_198 _ _ _ _) v) (fun v => reach_any (unhide HP).hY (by rw [unhide EG]; exact new_198 _ _ _ _) v))
  have he64 := eq64
  go_upto_if 92 with (first | ((with_reducible refine wl_load (b3 := b5) (f := F) ?hx (unhide HP).hZ ((unhide HP).c5.below (unhide Hwc)).row ?_); (case hx => rfl)) | ((with_reducible refine wl_loadG (b3 := b6) (f := G) (d := 87) ?hx ?hd ?hs ?he (unhide HP).hY ((unhide HP).c6.below (unhide Hwd)).row ?_); (case hx => rfl); (case hd => rfl); (case hs => exact (by decide : 87 < 155)); (case he => rfl)) | (go_at_call 15; refine ((unhide Hr).2 wd).mono ?_; rintro e we' ⟨rfl, hbe⟩) | (go_at_call 15; refine ((unhide Hr).1 wc).mono ?_; rintro e wd ⟨rfl, hbd⟩; have Hwd := hide ((unhide Hwc).trans (hbd.mono (unhide Hwc).size)); clear hbd))
  have Hwe := hide ((unhide Hwd).trans (hbe.mono (unhide Hwd).size))
  clear hbe he64
  obtain ⟨we, ewe⟩ : ∃ v, v = we' := ⟨_, rfl⟩
  rw [← ewe] at Hwe ⊢
  clear ewe

  obtain ⟨A27, eA27⟩ : ∃ A : Value, A = Value.agg onL.toArray := ⟨_, rfl⟩
  have HP27 : Hid ((∀ v, Below w6.heap.size w6 v → Calls Tryd.prog 16 #[.agg Z] v fun e v' => e = .returned A27 ∧ Below w6.heap.size w6 v') ∧ (∀ v, Below w6.heap.size w6 v → Calls Tryd.prog 16 #[.agg Y] v fun e v' => e = .returned A27 ∧ Below w6.heap.size w6 v') ∧
      (∀ v, (binOp .neq 32 A27 A27).run Tryd.prog v = .ok (.bool false) v) ∧ ∀ (x y : Operand) v, (eqGuard .neq 32 x y A27 A27).run Tryd.prog v = .ok () v) := by
    rw [eA27]
    exact ⟨fun v h => to_S h ((by have h := on_any (unhide HP).hZ (unhide Hf).1 v; rw [unhide EF, new_on] at h; exact h)), fun v h => to_S h ((by have h := on_any (unhide HP).hY (unhide Hf).2 v; rw [unhide EG, new_on] at h; exact h)), fun v => neq32 v, fun x y v => guard32 x y _ _ v⟩
  clear eA27
  go_upto_region 27 with fail
  refine reg_f4_27 (S := fun v => Below w6.heap.size w6 v) (P5 := .pointer (some ⟨b5, 0, none⟩)) (P6 := .pointer (some ⟨b6, 0, none⟩)) (L36_5 := .agg Z) (L36_6 := .agg Y) (V94 := A27) (V96 := A27) rfl rfl rfl (fun v h => h.drew) (unhide HP).l5 (unhide HP).l6 (unhide HP27).1 (unhide HP27).2.1 (fun v => (unhide HP27).2.2.2 _ _ v) (unhide HP27).2.2.1 (unhide Hwe) ?_
  intro wf hwf
  have Hwf := hide (show Below w6.heap.size w6 wf from hwf)
  clear hwf
  simp only [Act.put, List.setIfInBounds_toArray, List.set_cons_zero, List.set_cons_succ]

  have Hpc := hide (And.intro (fun v => pcount_any (unhide HP).hZ (unhide HP).f4 v) (fun v => pcount_any (unhide HP).hY (unhide HP).g4 v))
  go_upto_region 30 with (first | ((with_reducible refine wl_load (b3 := b5) (f := F) ?hx (unhide HP).hZ ((unhide HP).c5.below (unhide Hwf)).row ?_); (case hx => rfl)) | (go_at_call 17; refine ((unhide Hpc).1 wf).mono ?_; rintro e wg ⟨rfl, hbg⟩))
  have Hwg := hide ((unhide Hwf).trans (hbg.mono (unhide Hwf).size))
  clear hbg
  go_upto_block 2 with (first | ((with_reducible refine wl_load (b3 := b6) (f := G) ?hx (unhide HP).hY ((unhide HP).c6.below (unhide Hwg)).row ?_); (case hx => rfl)) | (go_at_call 17; refine ((unhide Hpc).2 wg).mono ?_; rintro e wh ⟨rfl, hbh⟩))
  have Hwh := hide ((unhide Hwg).trans (hbh.mono (unhide Hwg).size))
  clear hbh
  refine sidesLoop (unhide HP) (unhide Hwh) ?_
  intro u4 u104 u105 u106 u107 u108 u109 u110 u111 u112 u113 u114 u115 u116 u117 u118 u119 u120 u121 u122 wi hwi
  dsimp only
  have Hwi := hide hwi
  clear hwi

  obtain ⟨A39, eA39⟩ : ∃ A : Value, A = Value.int .i64 0 := ⟨_, rfl⟩
  have HP39 : Hid ((∀ v, Below w6.heap.size w6 v → Calls Tryd.prog 20 #[.agg Z] v fun e v' => e = .returned A39 ∧ Below w6.heap.size w6 v') ∧ (∀ v, Below w6.heap.size w6 v → Calls Tryd.prog 20 #[.agg Y] v fun e v' => e = .returned A39 ∧ Below w6.heap.size w6 v') ∧
      (∀ v, (binOp .neq 3 A39 A39).run Tryd.prog v = .ok (.bool false) v) ∧ ∀ (x y : Operand) v, (eqGuard .neq 3 x y A39 A39).run Tryd.prog v = .ok () v) := by
    rw [eA39]
    exact ⟨fun v h => to_S h (members_any (unhide HP).hZ (by rw [unhide EF]; exact new_199 _ _ _ _) v), fun v h => to_S h (members_any (unhide HP).hY (by rw [unhide EG]; exact new_199 _ _ _ _) v), fun v => by kernel_rfl, fun _ _ v => by rfl⟩
  clear eA39
  go_upto_region 39 with fail
  refine reg_f4_39 (S := fun v => Below w6.heap.size w6 v) (P5 := .pointer (some ⟨b5, 0, none⟩)) (P6 := .pointer (some ⟨b6, 0, none⟩)) (L36_5 := .agg Z) (L36_6 := .agg Y) (V124 := A39) (V126 := A39) rfl rfl rfl (fun v h => h.drew) (unhide HP).l5 (unhide HP).l6 (unhide HP39).1 (unhide HP39).2.1 (fun v => (unhide HP39).2.2.2 _ _ v) (unhide HP39).2.2.1 (unhide Hwi) ?_
  intro wj hwj
  have Hwj := hide (show Below w6.heap.size w6 wj from hwj)
  clear hwj
  simp only [Act.put, List.setIfInBounds_toArray, List.set_cons_zero, List.set_cons_succ]

  go_upto_region 41 with fail
  refine reg_f4_41 (S := fun v => Below w6.heap.size w6 v) (P5 := .pointer (some ⟨b5, 0, none⟩)) (P6 := .pointer (some ⟨b6, 0, none⟩)) (L36_5 := .agg Z) (L36_6 := .agg Y) (V129 := .int .i64 0) (V131 := .int .i64 0) (V135 := .int .i64 0) (V137 := .int .i64 0) rfl rfl rfl (fun v h => h.drew) (unhide HP).l5 (unhide HP).l6
    (fun v h => to_S h (pending_any (unhide HP).hZ (by rw [unhide EF]; exact new_203 _ _ _ _) v)) (fun v h => to_S h (pending_any (unhide HP).hY (by rw [unhide EG]; exact new_203 _ _ _ _) v)) (fun v => by rfl) (fun v => by kernel_rfl)
    (fun v h => to_S h (waiting_any (unhide HP).hZ (by rw [unhide EF]; exact new_204 _ _ _ _) v)) (fun v h => to_S h (waiting_any (unhide HP).hY (by rw [unhide EG]; exact new_204 _ _ _ _) v)) (fun v => by rfl) (fun v => by kernel_rfl) (unhide Hwj) ?_
  intro wk hwk
  have Hwk := hide (show Below w6.heap.size w6 wk from hwk)
  clear hwk
  simp only [Act.put, List.setIfInBounds_toArray, List.set_cons_zero, List.set_cons_succ]

  obtain ⟨A43, eA43⟩ : ∃ A : Value, A = Value.bool true := ⟨_, rfl⟩
  have HP43 : Hid ((∀ v, Below w6.heap.size w6 v → Calls Tryd.prog 23 #[.agg Z] v fun e v' => e = .returned A43 ∧ Below w6.heap.size w6 v') ∧ (∀ v, Below w6.heap.size w6 v → Calls Tryd.prog 23 #[.agg Y] v fun e v' => e = .returned A43 ∧ Below w6.heap.size w6 v') ∧
      (∀ v, (binOp .neq 4 A43 A43).run Tryd.prog v = .ok (.bool false) v) ∧ ∀ (x y : Operand) v, (eqGuard .neq 4 x y A43 A43).run Tryd.prog v = .ok () v) := by
    rw [eA43]
    exact ⟨fun v h => to_S h (linked_any (unhide HP).hZ (by rw [unhide EF]; exact new_200 _ _ _ _) v), fun v h => to_S h (linked_any (unhide HP).hY (by rw [unhide EG]; exact new_200 _ _ _ _) v), fun v => by kernel_rfl, fun _ _ v => by rfl⟩
  clear eA43
  go_upto_region 43 with fail
  refine reg_f4_43 (S := fun v => Below w6.heap.size w6 v) (P5 := .pointer (some ⟨b5, 0, none⟩)) (P6 := .pointer (some ⟨b6, 0, none⟩)) (L36_5 := .agg Z) (L36_6 := .agg Y) (V141 := A43) (V143 := A43) rfl rfl rfl (fun v h => h.drew) (unhide HP).l5 (unhide HP).l6 (unhide HP43).1 (unhide HP43).2.1 (fun v => (unhide HP43).2.2.2 _ _ v) (unhide HP43).2.2.1 (unhide Hwk) ?_
  intro wl hwl
  have Hwl := hide (show Below w6.heap.size w6 wl from hwl)
  clear hwl
  simp only [Act.put, List.setIfInBounds_toArray, List.set_cons_zero, List.set_cons_succ]

  obtain ⟨A45, eA45⟩ : ∃ A : Value, A = Value.bool false := ⟨_, rfl⟩
  have HP45 : Hid ((∀ v, Below w6.heap.size w6 v → Calls Tryd.prog 24 #[.agg Z] v fun e v' => e = .returned A45 ∧ Below w6.heap.size w6 v') ∧ (∀ v, Below w6.heap.size w6 v → Calls Tryd.prog 24 #[.agg Y] v fun e v' => e = .returned A45 ∧ Below w6.heap.size w6 v') ∧
      (∀ v, (binOp .neq 4 A45 A45).run Tryd.prog v = .ok (.bool false) v) ∧ ∀ (x y : Operand) v, (eqGuard .neq 4 x y A45 A45).run Tryd.prog v = .ok () v) := by
    rw [eA45]
    exact ⟨fun v h => to_S h (gathering_any (unhide HP).hZ (by rw [unhide EF]; exact new_201 _ _ _ _) v), fun v h => to_S h (gathering_any (unhide HP).hY (by rw [unhide EG]; exact new_201 _ _ _ _) v), fun v => by kernel_rfl, fun _ _ v => by rfl⟩
  clear eA45
  go_upto_region 45 with fail
  refine reg_f4_45 (S := fun v => Below w6.heap.size w6 v) (P5 := .pointer (some ⟨b5, 0, none⟩)) (P6 := .pointer (some ⟨b6, 0, none⟩)) (L36_5 := .agg Z) (L36_6 := .agg Y) (V146 := A45) (V148 := A45) rfl rfl rfl (fun v h => h.drew) (unhide HP).l5 (unhide HP).l6 (unhide HP45).1 (unhide HP45).2.1 (fun v => (unhide HP45).2.2.2 _ _ v) (unhide HP45).2.2.1 (unhide Hwl) ?_
  intro wm hwm
  have Hwm := hide (show Below w6.heap.size w6 wm from hwm)
  clear hwm
  simp only [Act.put, List.setIfInBounds_toArray, List.set_cons_zero, List.set_cons_succ]

  obtain ⟨A47, eA47⟩ : ∃ A : Value, A = Value.bool false := ⟨_, rfl⟩
  have HP47 : Hid ((∀ v, Below w6.heap.size w6 v → Calls Tryd.prog 25 #[.agg Z] v fun e v' => e = .returned A47 ∧ Below w6.heap.size w6 v') ∧ (∀ v, Below w6.heap.size w6 v → Calls Tryd.prog 25 #[.agg Y] v fun e v' => e = .returned A47 ∧ Below w6.heap.size w6 v') ∧
      (∀ v, (binOp .eql 4 A47 A47).run Tryd.prog v = .ok (.bool true) v) ∧ ∀ (x y : Operand) v, (eqGuard .eql 4 x y A47 A47).run Tryd.prog v = .ok () v) := by
    rw [eA47]
    exact ⟨fun v h => to_S h (sure_any (unhide HP).hZ (by rw [unhide EF]; exact new_202 _ _ _ _) v), fun v h => to_S h (sure_any (unhide HP).hY (by rw [unhide EG]; exact new_202 _ _ _ _) v), fun v => by kernel_rfl, fun _ _ v => by rfl⟩
  clear eA47
  go_upto_region 47 with fail
  refine reg_f4_47 (S := fun v => Below w6.heap.size w6 v) (P5 := .pointer (some ⟨b5, 0, none⟩)) (P6 := .pointer (some ⟨b6, 0, none⟩)) (L36_5 := .agg Z) (L36_6 := .agg Y) (V151 := A47) (V153 := A47) rfl rfl rfl (fun v h => h.drew) (unhide HP).l5 (unhide HP).l6 (unhide HP47).1 (unhide HP47).2.1 (fun v => (unhide HP47).2.2.2 _ _ v) (unhide HP47).2.2.1 (unhide Hwm) ?_
  intro wn hwn
  have Hwn := hide (show Below w6.heap.size w6 wn from hwn)
  clear hwn
  simp only [Act.put, List.setIfInBounds_toArray, List.set_cons_zero, List.set_cons_succ]

  go_wp2
  go_ret
  exact ⟨rfl, (unhide H6).1.trans ((unhide Hwn).mono (unhide H6).1.size)⟩

end Go.Proofs.Qxb6614855aDoor
