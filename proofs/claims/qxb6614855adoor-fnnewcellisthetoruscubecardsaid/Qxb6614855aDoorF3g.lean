/- The first law, whole. -/
import Derived.Test.Qxb6614855aDoorF3f
namespace Go.Proofs.Qxb6614855aDoor
open Go.RowKit

theorem rep_one {n : Nat} {v : Value} (h : v.oneCell' = true) : ∀ u ∈ List.replicate n v, u.oneCell' = true := fun u hu => by rw [(List.mem_replicate.1 hu).2]; exact h
theorem on_one : ∀ u ∈ onL, u.oneCell' = true := fun u hu => by
  rcases List.mem_append.1 hu with h | h
  · exact rep_one rfl u h
  · exact rep_one rfl u h

set_option maxRecDepth 100000 in
set_option maxHeartbeats 8000000 in
theorem law3 (x : Nat → Int) (w : World) (hT : TabAt 0 Lib.deBruijn32tab w) (hs : 0 < w.heap.size) : Calls Tryd.prog 3 #[.agg (ownA x)] w fun e w' => e = .returned (.bool true) ∧ Below w.heap.size w w' := by
  obtain ⟨W0, eW0⟩ : ∃ W0, W0 = w.alloc (.cells (ownA x) 23) := ⟨_, rfl⟩
  have hb0 : Below w.heap.size w W0 := by rw [eW0]; exact (Below.refl _ _).alloc (Nat.le_refl _) _
  have hz0 : W0.heap.size = w.heap.size + 1 := by rw [eW0]; simp
  have hr1 : W0.heap[w.heap.size]? = some (rowObj (ownA x).toList 23) := by
    rw [eW0]
    exact heap_alloc_last _ _
  have hT0 : TabAt 0 Lib.deBruijn32tab W0 := fun i hi => (World.cell?_of_block (w := w) (hb0.block 0 hs)).trans (hT i hi)
  have hn := zz_any x W0 hT0 (by omega)
  have hrg : W0.rangeAt w.heap.size 0 (ownA x).toList := fun j v hj => by rw [Nat.zero_add]; exact row_cell hr1 j v hj
  obtain ⟨O, eO⟩ : ∃ O, O = ownA x := ⟨_, rfl⟩
  have hO : O = (ownA x).toList.toArray := by rw [eO]
  have hsz : (Tryd.prog.info? 23).map (·.size) = some (ownA x).toList.length := by rw [sizeZ23]; rfl
  have hr1' := hr1
  obtain ⟨OL, eOL⟩ : ∃ OL, OL = (ownA x).toList := ⟨_, rfl⟩
  rw [← eO] at eW0 hn ⊢
  rw [← eOL] at hO hsz hrg
  have H0 := hide (And.intro hn (And.intro hb0 (And.intro hr1' hrg)))
  have HO := hide hO
  have HOx := hide eO
  obtain ⟨ZO, eZO⟩ : ∃ ZO, ZO = rowObj (lay zeroF) 36 := ⟨_, rfl⟩
  have HZO := hide eZO
  have HZO2 := hide (fun w2 : World => (show (w2.alloc ZO).heap[w2.heap.size]? = some (rowObj (lay zeroF) 36) from by rw [← eZO]; exact heap_alloc_last _ _))
  clear hT hT0 hb0 hr1 hr1' hrg hn eO eOL hO eZO
  go_enter Tryd.func3, Tryd.ntmps3
  go_upto_region 1 with fail
  rw [← eW0]
  clear eW0
  go_upto_region 2 with (first | ((with_reducible refine wl_loadT (T := 23) ?hx (unhide HO) Tryd.underlying23 rfl hsz (unhide H0).2.2.2 ?_); (case hx => rfl)) | (go_at_call 5; refine (unhide H0).1.mono ?_; rintro e wy ⟨bp, bv, cap, rfl, hp, hV, hb⟩; obtain ⟨Z, eZ⟩ : ∃ Z, Z = (lay (newF x bp bv cap)).toArray := ⟨_, rfl⟩; rw [← eZ]; have HZ := hide eZ; clear eZ; have H1 := hide (And.intro hp (And.intro hV hb)); clear hp hV hb) | (with_reducible refine wl_alloc (unhide HZO) ?_) | ((with_reducible refine wl_store (b3 := wy.heap.size) (f := newF x bp bv cap) (g := zeroF) ?hx ?hy (unhide HZ) (newF_one x bp bv cap) (unhide HZO2 wy) ?_); (case hx => rfl); (case hy => rfl); intro w3 h3))
  have hyz := (unhide H1).2.2.size
  have k3 := h3.2
  have z3 : wy.heap.size + 1 ≤ w3.heap.size := by have := k3.size; simp at this; omega
  have by3 : Below wy.heap.size wy w3 := ((Below.refl _ _).alloc (Nat.le_refl _) _).trans (k3.toBelow (Nat.le_refl _) (by simp))
  have bw3 : Below w.heap.size w w3 := (unhide H0).2.1.trans (((unhide H1).2.2.trans (by3.mono hyz)).mono (by omega))
  have lp := lt_of_heap (unhide H1).1
  have lv : bv < wy.heap.size := lt_of_cell ((unhide H1).2.1 0 0 _ (by omega) rfl)
  obtain ⟨F, eF⟩ : ∃ F, F = newF x bp bv cap := ⟨_, rfl⟩
  obtain ⟨b3, e3⟩ : ∃ b3, b3 = wy.heap.size := ⟨_, rfl⟩
  have hc3 : Cell F b3 bp bv w3.heap.size w3 := ⟨by omega, by omega, by omega, by rw [e3, eF]; exact h3.1, (by3.block bp lp).trans (unhide H1).1, (unhide H1).2.1.below by3⟩
  have r1 : w3.heap[w.heap.size]? = some (rowObj (ownA x).toList 23) := (by3.block _ (by omega)).trans (((unhide H1).2.2.block _ (by omega)).trans (unhide H0).2.2.1)
  rw [← eF] at HZ
  rw [← e3]
  have HC := hide hc3
  have HB := hide (And.intro bw3 r1)
  have EF := hide eF
  clear h3 k3 by3 bw3 r1 hc3 eF HZO2 HZO hyz lp lv z3 e3
  have cb : ∀ v, Below w3.heap.size w3 v → Cell F b3 bp bv w3.heap.size v := fun v h => (unhide HC).below h
  have f1 : ∀ j, (F j).oneCell' = true := by rw [unhide EF]; exact newF_one x bp bv cap
  have ow : (part F 0 4).toArray = ownA x := by rw [unhide EF, new_own]
  have hl1 := lt_of_heap (unhide HB).2
  refine reg_f3_2 (S := fun v => Below w3.heap.size w3 v) (P1 := .pointer (some ⟨w.heap.size, 0, none⟩)) (P3 := .pointer (some ⟨b3, 0, none⟩)) (L36_3 := .agg Z) (L23_1 := .agg (ownA x)) (V29 := .agg (ownA x)) rfl rfl rfl (fun v h => h.drew)
    (fun v h => load_at36 (unhide HZ) (cb v h).row)
    (fun v h => load_atT (t := 23) (cs := (ownA x).toList) Tryd.underlying23 rfl sizeZ23 ((h.block _ hl1).trans (unhide HB).2))
    (fun v h => (own_any (unhide HZ) f1 v).mono (fun e v' he => ⟨by rw [← ow]; exact he.1, h.trans (he.2.mono h.size)⟩))
    (fun v => guard23 _ _ _ _ v) (fun v => neq23 x v) (Below.refl _ _) ?_
  intro w4 h4
  have B4 := hide (show Below w3.heap.size w3 w4 from h4)
  simp only [Act.put, List.setIfInBounds_toArray, List.set_cons_zero, List.set_cons_succ]
  rw [← unhide HOx]
  clear h4 cb ow hl1
  have Hf1 := hide f1
  clear f1
  have k7 := vcount_any (unhide HZ) (F := F) (by rw [unhide EF]; exact new_5 x bp bv cap) w4
  have c4 := (unhide HC).below (unhide B4)
  have H7 := hide (And.intro k7 c4)
  clear k7 c4
  go_upto_region 7 with (first | ((with_reducible refine wl_load (b3 := b3) (f := F) ?hx (unhide HZ) (unhide H7).2.row ?_); (case hx => rfl)) | (go_at_call 7; refine (unhide H7).1.mono ?_; rintro e w5 ⟨rfl, hb5⟩))
  obtain ⟨W6, e6⟩ : ∃ W6, W6 = w5.alloc (.cells #[Value.bool false, .bool false, .bool false, .bool false, .bool false, .bool false, .bool false, .bool false, .bool false, .bool false, .bool false, .bool false, .bool false, .bool false, .bool false, .bool false] 40) := ⟨_, rfl⟩
  rw [← e6]
  have b5 : Below w3.heap.size w3 w5 := (unhide B4).trans (hb5.mono (unhide B4).size)
  have b6 : Below w5.heap.size w5 W6 := by rw [e6]; exact (Below.refl _ _).alloc (Nat.le_refl _) _
  have r6 : W6.heap[w5.heap.size]? = some (rowObj (seenL 0) 40) := by rw [e6]; exact heap_alloc_last _ _
  have b36 : Below w3.heap.size w3 W6 := b5.trans (b6.mono b5.size)
  have c6 : Cell F b3 bp bv w5.heap.size W6 := by
    have h := (unhide HC).below b36
    have z := b5.size
    exact ⟨by have := h.l3; omega, by have := h.lp; omega, by have := h.lv; omega, h.row, h.pls, h.crn⟩
  have H6 := hide (And.intro b36 (And.intro b5.size b6.size))
  obtain ⟨b4, e4⟩ : ∃ b4, b4 = w5.heap.size := ⟨_, rfl⟩
  rw [← e4] at r6 c6 H6 ⊢
  have z5 := b5.size
  rw [← e4] at z5
  clear e6 b5 b6 b36 hb5 e4
  go_upto_block 0 with fail
  refine cornersLoop (unhide HZ) (by rw [unhide EF]; exact new_5 x bp bv cap) c6 r6 ?_
  intro u2 u6 u7 u8 u9 u10 u11 u12 u13 u14 u15 u16 u35 u36 u37 u38 u39 u40 u41 u42 u43 u44 u45 u46 u47 u48 u49 u50 u51 u52 u53 u54 u55 u56 u57 u58 u59 u60 u61 u62 u63 u64 u65 u66 u67 u68 u69 u70 u71 u72 u73 u74 u75 u76 u77 u78 u79 u80 u81 u82 u83 u84 u85 u86 u87 u88 u89 u90 u91 u92 u93 u94 u95 u96 u97 u98 u99 u100 u101 u102 u103 u104 u105 u106 u107 u108 u109 u110 u111 u112 u113 u114 u115 u116 u117 u118 u119 u120 u121 u122 u123 u124 u125 u126 u127 u128 u129 u130 u131 u132 u133 w7 h7
  dsimp only
  have Bw7 := hide ((unhide H6).1.trans (h7.mono z5))
  clear h7 r6 c6
  have c_cen : Cell F b3 bp bv w3.heap.size w7 := (unhide HC).below (unhide Bw7)
  have k_cen := (by have h := census_any (unhide HZ) (unhide Hf1) w7; rw [unhide EF, new_census] at h; exact h : Calls Tryd.prog 12 #[.agg Z] w7 fun e w' => e = .returned (.agg (List.replicate 16 (Value.int .i32 1)).toArray) ∧ Below w7.heap.size w7 w')
  obtain ⟨Vcen, eVcen⟩ : ∃ V, V = (List.replicate 16 (Value.int .i32 1)).toArray := ⟨_, rfl⟩
  rw [← eVcen] at k_cen
  have HVcen := hide eVcen
  have Hcen := hide (And.intro k_cen c_cen)
  have halcen := allocZ26
  obtain ⟨Ocen, eOcen⟩ : ∃ O, O = rowObj (List.replicate 16 (.int .i32 0)) 26 := ⟨_, rfl⟩
  rw [← eOcen] at halcen
  have HALcen := hide halcen
  have HRcen := hide (fun w2 : World => (show (w2.alloc Ocen).heap[w2.heap.size]? = some (rowObj (List.replicate 16 (.int .i32 0)) 26) from by rw [← eOcen]; exact heap_alloc_last _ _))
  have HScen := hide (And.intro (show (Tryd.prog.info? 26).map (·.size) = some (List.replicate 16 (Value.int .i32 1)).length from sizeZ26) (show (List.replicate 16 (.int .i32 0 : Value)).length = (List.replicate 16 (Value.int .i32 1)).length from by first | rfl | simp))
  clear c_cen k_cen eVcen halcen eOcen
  go_upto_region 51 with (first | ((with_reducible refine wl_load (b3 := b3) (f := F) ?hx (unhide HZ) (unhide Hcen).2.row ?_); (case hx => rfl)) | (go_at_call 12; refine (unhide Hcen).1.mono ?_; rintro e qcen ⟨rfl, hbcen⟩) | (with_reducible refine wl_allocT (unhide HALcen _) ?_) | ((with_reducible refine wl_storeT (T := 26) (b := qcen.heap.size) ?hx ?hy (unhide HVcen) (rep_one rfl) (unhide HScen).1 (unhide HRcen qcen) (unhide HScen).2 ?_); (case hx => rfl); (case hy => rfl); intro w8 hwcen))
  have zcen := hbcen.size
  have bcen : Below w7.heap.size w7 w8 := hbcen.trans (((Below.refl _ _).alloc zcen _).trans (hwcen.2.toBelow zcen (by simp; omega)))
  have rcen : w8.heap[qcen.heap.size]? = some (rowObj (List.replicate 16 (Value.int .i32 1)) 26) := by have h := hwcen.1; rw [unhide HVcen] at h; exact h
  have Bw8 := hide ((unhide Bw7).trans (bcen.mono (unhide Bw7).size))
  obtain ⟨b17, eb17⟩ : ∃ b, b = qcen.heap.size := ⟨_, rfl⟩
  rw [← eb17] at rcen ⊢
  clear hwcen hbcen eb17 zcen
  have c_ext : Cell F b3 bp bv w3.heap.size w8 := (unhide HC).below (unhide Bw8)
  have k_ext := (by have h := extents_any (unhide HZ) (unhide Hf1) w8; rw [unhide EF, new_extents] at h; exact h : Calls Tryd.prog 13 #[.agg Z] w8 fun e w' => e = .returned (.agg (List.replicate 64 (Value.float .f64 4746794007248502784)).toArray) ∧ Below w8.heap.size w8 w')
  obtain ⟨Vext, eVext⟩ : ∃ V, V = (List.replicate 64 (Value.float .f64 4746794007248502784)).toArray := ⟨_, rfl⟩
  rw [← eVext] at k_ext
  have HVext := hide eVext
  have Hext := hide (And.intro k_ext c_ext)
  have halext := allocZ29
  obtain ⟨Oext, eOext⟩ : ∃ O, O = rowObj (List.replicate 64 (.float .f64 0)) 29 := ⟨_, rfl⟩
  rw [← eOext] at halext
  have HALext := hide halext
  have HRext := hide (fun w2 : World => (show (w2.alloc Oext).heap[w2.heap.size]? = some (rowObj (List.replicate 64 (.float .f64 0)) 29) from by rw [← eOext]; exact heap_alloc_last _ _))
  have HSext := hide (And.intro (show (Tryd.prog.info? 29).map (·.size) = some (List.replicate 64 (Value.float .f64 4746794007248502784)).length from sizeZ29) (show (List.replicate 64 (.float .f64 0 : Value)).length = (List.replicate 64 (Value.float .f64 4746794007248502784)).length from by first | rfl | simp))
  clear c_ext k_ext eVext halext eOext
  go_upto_region 52 with (first | ((with_reducible refine wl_load (b3 := b3) (f := F) ?hx (unhide HZ) (unhide Hext).2.row ?_); (case hx => rfl)) | (go_at_call 13; refine (unhide Hext).1.mono ?_; rintro e qext ⟨rfl, hbext⟩) | (with_reducible refine wl_allocT (unhide HALext _) ?_) | ((with_reducible refine wl_storeT (T := 29) (b := qext.heap.size) ?hx ?hy (unhide HVext) (rep_one rfl) (unhide HSext).1 (unhide HRext qext) (unhide HSext).2 ?_); (case hx => rfl); (case hy => rfl); intro w9 hwext))
  have zext := hbext.size
  have bext : Below w8.heap.size w8 w9 := hbext.trans (((Below.refl _ _).alloc zext _).trans (hwext.2.toBelow zext (by simp; omega)))
  have rext : w9.heap[qext.heap.size]? = some (rowObj (List.replicate 64 (Value.float .f64 4746794007248502784)) 29) := by have h := hwext.1; rw [unhide HVext] at h; exact h
  have Bw9 := hide ((unhide Bw8).trans (bext.mono (unhide Bw8).size))
  obtain ⟨b18, eb18⟩ : ∃ b, b = qext.heap.size := ⟨_, rfl⟩
  rw [← eb18] at rext ⊢
  clear hwext hbext eb18 zext
  have c_rad : Cell F b3 bp bv w3.heap.size w9 := (unhide HC).below (unhide Bw9)
  have k_rad := (by have h := radii_any (unhide HZ) (unhide Hf1) w9; rw [unhide EF, new_radii] at h; exact h : Calls Tryd.prog 14 #[.agg Z] w9 fun e w' => e = .returned (.agg (List.replicate 16 (Value.float .f64 4895412794951729152)).toArray) ∧ Below w9.heap.size w9 w')
  obtain ⟨Vrad, eVrad⟩ : ∃ V, V = (List.replicate 16 (Value.float .f64 4895412794951729152)).toArray := ⟨_, rfl⟩
  rw [← eVrad] at k_rad
  have HVrad := hide eVrad
  have Hrad := hide (And.intro k_rad c_rad)
  have halrad := allocZ30
  obtain ⟨Orad, eOrad⟩ : ∃ O, O = rowObj (List.replicate 16 (.float .f64 0)) 30 := ⟨_, rfl⟩
  rw [← eOrad] at halrad
  have HALrad := hide halrad
  have HRrad := hide (fun w2 : World => (show (w2.alloc Orad).heap[w2.heap.size]? = some (rowObj (List.replicate 16 (.float .f64 0)) 30) from by rw [← eOrad]; exact heap_alloc_last _ _))
  have HSrad := hide (And.intro (show (Tryd.prog.info? 30).map (·.size) = some (List.replicate 16 (Value.float .f64 4895412794951729152)).length from sizeZ30) (show (List.replicate 16 (.float .f64 0 : Value)).length = (List.replicate 16 (Value.float .f64 4895412794951729152)).length from by first | rfl | simp))
  clear c_rad k_rad eVrad halrad eOrad
  go_upto_region 53 with (first | ((with_reducible refine wl_load (b3 := b3) (f := F) ?hx (unhide HZ) (unhide Hrad).2.row ?_); (case hx => rfl)) | (go_at_call 14; refine (unhide Hrad).1.mono ?_; rintro e qrad ⟨rfl, hbrad⟩) | (with_reducible refine wl_allocT (unhide HALrad _) ?_) | ((with_reducible refine wl_storeT (T := 30) (b := qrad.heap.size) ?hx ?hy (unhide HVrad) (rep_one rfl) (unhide HSrad).1 (unhide HRrad qrad) (unhide HSrad).2 ?_); (case hx => rfl); (case hy => rfl); intro wa hwrad))
  have zrad := hbrad.size
  have brad : Below w9.heap.size w9 wa := hbrad.trans (((Below.refl _ _).alloc zrad _).trans (hwrad.2.toBelow zrad (by simp; omega)))
  have rrad : wa.heap[qrad.heap.size]? = some (rowObj (List.replicate 16 (Value.float .f64 4895412794951729152)) 30) := by have h := hwrad.1; rw [unhide HVrad] at h; exact h
  have Bwa := hide ((unhide Bw9).trans (brad.mono (unhide Bw9).size))
  obtain ⟨b19, eb19⟩ : ∃ b, b = qrad.heap.size := ⟨_, rfl⟩
  rw [← eb19] at rrad ⊢
  clear hwrad hbrad eb19 zrad
  have rc17 := (brad.block b17 (Nat.lt_of_lt_of_le (lt_of_heap rcen) bext.size)).trans ((bext.block b17 (lt_of_heap rcen)).trans rcen)
  have rc18 := (brad.block b18 (lt_of_heap rext)).trans rext
  have HR6 := hide (And.intro rc17 (And.intro rc18 rrad))
  clear rc17 rc18 rrad rext rcen brad bext bcen
  go_upto_block 10 with fail
  refine orthantsLoop (unhide HR6).1 (unhide HR6).2.1 (unhide HR6).2.2 ?_
  intro u2 u21 u140 u141 u142 u143 u144 u145 u146 u147 u148 u149 u150 u151 u152 u153 u154 u155 u156 u157 u158 u159 u160 u161 u162 u163
  dsimp only
  have kre := reach_any (unhide HZ) (F := F) (by rw [unhide EF]; exact new_198 x bp bv cap) wa
  have Hre := hide (And.intro kre ((unhide HC).below (unhide Bwa)))
  have he64 := eq64
  clear kre
  go_upto_region 67 with (first | ((with_reducible refine wl_load (b3 := b3) (f := F) ?hx (unhide HZ) (unhide Hre).2.row ?_); (case hx => rfl)) | (go_at_call 15; refine (unhide Hre).1.mono ?_; rintro e wb ⟨rfl, hbre⟩))
  have Bwb := hide ((unhide Bwa).trans (hbre.mono (unhide Bwa).size))
  clear hbre he64
  have c_onx : Cell F b3 bp bv w3.heap.size wb := (unhide HC).below (unhide Bwb)
  have k_onx := (by have h := on_any (unhide HZ) (unhide Hf1) wb; rw [unhide EF, new_on] at h; exact h : Calls Tryd.prog 16 #[.agg Z] wb fun e w' => e = .returned (.agg (onL).toArray) ∧ Below wb.heap.size wb w')
  obtain ⟨Vonx, eVonx⟩ : ∃ V, V = (onL).toArray := ⟨_, rfl⟩
  rw [← eVonx] at k_onx
  have HVonx := hide eVonx
  have Honx := hide (And.intro k_onx c_onx)
  have halonx := allocZ32
  obtain ⟨Oonx, eOonx⟩ : ∃ O, O = rowObj (List.replicate 96 (.int .i16 0)) 32 := ⟨_, rfl⟩
  rw [← eOonx] at halonx
  have HALonx := hide halonx
  have HRonx := hide (fun w2 : World => (show (w2.alloc Oonx).heap[w2.heap.size]? = some (rowObj (List.replicate 96 (.int .i16 0)) 32) from by rw [← eOonx]; exact heap_alloc_last _ _))
  have HSonx := hide (And.intro (show (Tryd.prog.info? 32).map (·.size) = some (onL).length from sizeZ32) (show (List.replicate 96 (.int .i16 0 : Value)).length = (onL).length from by first | rfl | simp))
  clear c_onx k_onx eVonx halonx eOonx
  go_upto_region 68 with (first | ((with_reducible refine wl_load (b3 := b3) (f := F) ?hx (unhide HZ) (unhide Honx).2.row ?_); (case hx => rfl)) | (go_at_call 16; refine (unhide Honx).1.mono ?_; rintro e qonx ⟨rfl, hbonx⟩) | (with_reducible refine wl_allocT (unhide HALonx _) ?_) | ((with_reducible refine wl_storeT (T := 32) (b := qonx.heap.size) ?hx ?hy (unhide HVonx) on_one (unhide HSonx).1 (unhide HRonx qonx) (unhide HSonx).2 ?_); (case hx => rfl); (case hy => rfl); intro wc hwonx))
  have zonx := hbonx.size
  have bonx : Below wb.heap.size wb wc := hbonx.trans (((Below.refl _ _).alloc zonx _).trans (hwonx.2.toBelow zonx (by simp; omega)))
  have ronx : wc.heap[qonx.heap.size]? = some (rowObj (onL) 32) := by have h := hwonx.1; rw [unhide HVonx] at h; exact h
  have Bwc := hide ((unhide Bwb).trans (bonx.mono (unhide Bwb).size))
  obtain ⟨b22, eb22⟩ : ∃ b, b = qonx.heap.size := ⟨_, rfl⟩
  rw [← eb22] at ronx ⊢
  clear hwonx hbonx eb22 zonx
  go_upto_block 14 with fail
  refine onLoop ronx ?_
  intro u2 u24 u170 u171 u172 u173 u174 u175 u176 u177 u178 u179 u180
  dsimp only
  clear ronx bonx
  have kpc := pcount_any (unhide HZ) (F := F) (by rw [unhide EF]; exact new_4 x bp bv cap) wc
  have Hpc := hide (And.intro kpc ((unhide HC).below (unhide Bwc)))
  clear kpc
  go_upto_block 16 with (first | ((with_reducible refine wl_load (b3 := b3) (f := F) ?hx (unhide HZ) (unhide Hpc).2.row ?_); (case hx => rfl)) | (go_at_call 17; refine (unhide Hpc).1.mono ?_; rintro e wd ⟨rfl, hbpc⟩))
  have Bwd := hide ((unhide Bwc).trans (hbpc.mono (unhide Bwc).size))
  clear hbpc
  refine planeLoop (B := w3.heap.size) (bp := bp) (bv := bv) (F := F) (unhide HZ) (by rw [unhide EF]; exact new_4 x bp bv cap) (unhide Bwd).size ((unhide HC).below (unhide Bwd)) ?_
  intro u2 u184 u185 u186 u187 u188 u189 u190 u191 u192 u193 u194 u195 u196 we he
  dsimp only
  have Bwe := hide ((unhide Bwd).trans (he.mono (unhide Bwd).size))
  clear he
  have km := members_any (unhide HZ) (F := F) (by rw [unhide EF]; exact new_199 x bp bv cap) we
  have Hm := hide (And.intro km ((unhide HC).below (unhide Bwe)))
  clear km
  go_upto_if 209 with (first | ((with_reducible refine wl_load (b3 := b3) (f := F) ?hx (unhide HZ) (unhide Hm).2.row ?_); (case hx => rfl)) | ((with_reducible refine wl_loadG (b3 := b3) (f := F) (d := 200) ?hx ?hd ?hs ?he (unhide HZ) (unhide Hp).2.row ?_); (case hx => rfl); (case hd => rfl); (case hs => exact (by decide : 200 < 222)); (case he => rfl)) | ((with_reducible refine wl_loadG (b3 := b3) (f := F) (d := 205) ?hx ?hd ?hs ?he (unhide HZ) (unhide Hw).2.row ?_); (case hx => rfl); (case hd => rfl); (case hs => exact (by decide : 205 < 222)); (case he => rfl)) | (go_at_call 20; refine (unhide Hm).1.mono ?_; rintro e wf ⟨rfl, hbf⟩; have Bwf := hide ((unhide Bwe).trans (hbf.mono (unhide Bwe).size)); have kp := pending_any (unhide HZ) (F := F) (by rw [unhide EF]; exact new_203 x bp bv cap) wf; have Hp := hide (And.intro kp ((unhide HC).below (unhide Bwf))); clear kp hbf) | (go_at_call 21; refine (unhide Hp).1.mono ?_; rintro e wg ⟨rfl, hbg⟩; have Bwg := hide ((unhide Bwf).trans (hbg.mono (unhide Bwf).size)); have kw := waiting_any (unhide HZ) (F := F) (by rw [unhide EF]; exact new_204 x bp bv cap) wg; have Hw := hide (And.intro kw ((unhide HC).below (unhide Bwg))); clear kw hbg) | (go_at_call 22; refine (unhide Hw).1.mono ?_; rintro e wh ⟨rfl, hbh⟩))
  have Bwh := hide ((unhide Bwg).trans (hbh.mono (unhide Bwg).size))
  clear hbh
  have kl := linked_any (unhide HZ) (F := F) (by rw [unhide EF]; exact new_200 x bp bv cap) wh
  have Hl := hide (And.intro kl ((unhide HC).below (unhide Bwh)))
  clear kl
  go_wp2_with (first | ((with_reducible refine wl_load (b3 := b3) (f := F) ?hx (unhide HZ) (unhide Hl).2.row ?_); (case hx => rfl)) | ((with_reducible refine wl_loadG (b3 := b3) (f := F) (d := 212) ?hx ?hd ?hs ?he (unhide HZ) (unhide Hq).2.row ?_); (case hx => rfl); (case hd => rfl); (case hs => exact (by decide : 212 < 222)); (case he => rfl)) | ((with_reducible refine wl_loadG (b3 := b3) (f := F) (d := 217) ?hx ?hd ?hs ?he (unhide HZ) (unhide Hs).2.row ?_); (case hx => rfl); (case hd => rfl); (case hs => exact (by decide : 217 < 222)); (case he => rfl)) | (go_at_call 23; refine (unhide Hl).1.mono ?_; rintro e wi ⟨rfl, hbi⟩; have Bwi := hide ((unhide Bwh).trans (hbi.mono (unhide Bwh).size)); have kq := gathering_any (unhide HZ) (F := F) (by rw [unhide EF]; exact new_201 x bp bv cap) wi; have Hq := hide (And.intro kq ((unhide HC).below (unhide Bwi))); clear kq hbi) | (go_at_call 24; refine (unhide Hq).1.mono ?_; rintro e wj ⟨rfl, hbj⟩; have Bwj := hide ((unhide Bwi).trans (hbj.mono (unhide Bwi).size)); have ks := sure_any (unhide HZ) (F := F) (by rw [unhide EF]; exact new_202 x bp bv cap) wj; have Hs := hide (And.intro ks ((unhide HC).below (unhide Bwj))); clear ks hbj) | (go_at_call 25; refine (unhide Hs).1.mono ?_; rintro e wk ⟨rfl, hbk⟩))
  go_ret
  exact ⟨rfl, (unhide HB).1.trans (((unhide Bwj).trans (hbk.mono (unhide Bwj).size)).mono (unhide HB).1.size)⟩

end Go.Proofs.Qxb6614855aDoor
