/- The law's own text. -/
import Derived.Test.Qxb6616078aDoorL2
import Derived.Test.Qxb6616078aDoorL3
import Derived.Test.Qxb6616078aDoorL4
import Derived.Test.Qxb6616078aDoorL5
namespace Go.Proofs.Qxb6616078aDoor
open Go.RowKit Plain

/-- The marks as 'make' lays them. -/
def marks0 : List Bool := List.replicate 65536 false
def seen0 : Obj := rowObj (bools marks0) 4

theorem marks0_ok : Marks marks0 [] := Marks.zero

theorem make_seen (W : World) : (Instr.makeSlice 24 (.int .i64 65536) (.int .i64 65536)).run Tryd.prog W = .ok (.slice (some ⟨W.heap.size, 0, none⟩) 65536 65536) (W.alloc seen0) := by
  have h := make24 65536 (Nat.le_refl _) W
  have e : seen0 = rowObj (List.replicate 65536 (.bool false)) 4 := by
    unfold seen0 marks0 bools
    rw [List.map_replicate]
  rw [e]
  exact h

theorem kept_facts (oa ob : Option Addr) (na ca nb cb n : Nat) (w : World) : Calls Tryd.prog 6 #[.slice oa na ca, .slice ob nb cb, .int .i64 n] w fun e w' => e = .returned (.pointer (some ⟨w.heap.size, 0, none⟩)) ∧
    (w'.cell? ⟨w.heap.size, 0, none⟩ = some (.slice oa na ca) ∧ w'.cell? ⟨w.heap.size, 1, none⟩ = some (.slice ob nb cb) ∧ Below w.heap.size w w') := by
  refine (kept_any oa ob na ca nb cb n w).mono ?_
  rintro e w' ⟨he, rfl⟩
  exact ⟨he, by rw [World.cell?_alloc_at _ _ _ _ rfl]; rfl, by rw [World.cell?_alloc_at _ _ _ _ rfl]; rfl, (Below.refl _ _).alloc (Nat.le_refl _) _⟩

theorem same_facts (F : List Nat) (oa ob : Option Addr) (n ca cb : Nat) (w : World) (hz : n ≤ 65536) (hA : Arg w oa n (nats F)) (hB : Arg w ob n (nats F)) :
    Calls Tryd.prog 7 #[.slice oa n ca, .slice ob n cb] w fun e w' => e = .returned (.bool true) ∧ Below w.heap.size w w' := by
  refine (same_any F oa ob n ca cb w hz hA hB).mono ?_
  rintro e w' ⟨he, m, rfl⟩
  exact ⟨he, rfl, rfl, rfl, Nat.le_refl _, fun _ _ => rfl⟩

theorem words_zero (n : Nat) : List.replicate n (Value.int .u64 0) = words (List.replicate n 0) := by simp [words]

theorem to_nats {Z : List Int} {n : Nat} (hl : Z.length = n) (h : ∀ i, i < n → 0 ≤ Z.getD i 0 ∧ Z.getD i 0 < 65536) : ints Z = nats (Z.map Int.toNat) ∧ ∀ i, i < n → (Z.map Int.toNat).getD i 0 < 65536 := by
  constructor
  · unfold ints nats
    rw [List.map_map]
    apply List.map_congr_left
    intro x hx
    obtain ⟨i, hi, e⟩ := List.getElem_of_mem hx
    have := (h i (by omega)).1
    rw [List.getD_eq_getElem?_getD, List.getElem?_eq_getElem hi, Option.getD_some, e] at this
    show Value.int .i64 x = Value.int .i64 ((x.toNat : Nat) : Int)
    rw [Int.toNat_of_nonneg this]
  · intro i hi
    have := h i hi
    have e : (Z.map Int.toNat).getD i 0 = (Z.getD i 0).toNat := by simp [show i < Z.length from by omega]
    rw [e]
    omega

theorem mem_lt {L : List Nat} {n top : Nat} (hl : L.length = n) (h : ∀ i, i < n → L.getD i 0 < top) : ∀ v, v ∈ L → v < top := by
  intro v hv
  obtain ⟨i, hi, e⟩ := List.getElem_of_mem hv
  have := h i (by omega)
  rw [List.getD_eq_getElem?_getD, List.getElem?_eq_getElem hi, Option.getD_some, e] at this
  exact this

set_option maxRecDepth 100000 in
set_option maxHeartbeats 8000000 in
theorem main (oa : Option Addr) (n ca : Nat) (Z : List Int) (w : World) (hA : Arg w oa n (ints Z)) (hTab : TabAt 0 Lib.deBruijn64tab w) (hw : 0 < w.heap.size) :
    Calls Tryd.prog 3 #[.slice oa n ca] w fun e w' => e = .returned (.bool true) ∧ Below w.heap.size w w' := by
  have HA := hide hA
  have HTab := hide hTab
  clear hA hTab
  have hmk := make_seen
  go_enter Tryd.func3, Tryd.ntmps3
  go_wp2_with fail
  refine (bytes_any oa n ca _).mono ?_
  rintro e w' ⟨b, rfl, hw'⟩
  subst hw'
  cases b with
  | false =>
    go_wp2
    go_ret
    exact ⟨rfl, Below.refl _ _⟩
  | true =>
    by_cases hn : n ≤ 65536
    · go_upto_block 0 with fail
      refine loop1 (unhide HA) hn ?_
      intro u2 u21 u22 u23 u24 u25 u26 u27 u28 u29 u30 u31 u32 u33 u34 u35 u36 u37 u38 hZ
      dsimp only
      have hlZ : Z.length = n := by have := (unhide HA).len; simpa [ints] using this
      obtain ⟨hzn, hL⟩ := to_nats hlZ hZ
      have hA1 := unhide HA
      rw [hzn] at hA1
      obtain ⟨L, eL⟩ : ∃ L, L = Z.map Int.toNat := ⟨_, rfl⟩
      rw [← eL] at hA1 hL
      have hlL : L.length = n := by have := hA1.len; rwa [nats_len] at this
      have HA1 := hide hA1
      have HL := hide (And.intro hlL hL)
      clear hZ hlZ hzn hA1 hL hlL eL
      have b1 : Below w'.heap.size w' (w'.alloc seen0) := (Below.refl _ _).alloc (Nat.le_refl _) _
      have Hb1 := hide b1
      clear b1
      go_upto_block 2 with fail
      refine loop2 (w0 := w') (L := L) (S0 := marks0) (fun wr hb => (unhide HA1).later hb) (unhide HL).2 hn (Nat.le_refl _) (heap_alloc_new _ _) marks0_ok (unhide Hb1) (by simp) ?_
      intro u2 u40 u41 u42 u43 u44 u45 u46 u47 u48 u49 u50 u51 u52 u53 u54 u55 u56 u57 u58 w2 hx2
      dsimp only
      obtain ⟨S, hrow, hM, hb2, hlt2⟩ := hx2
      obtain ⟨g4, eg4⟩ : ∃ g4, g4 = w'.heap.size := ⟨_, rfl⟩
      rw [← eg4] at hrow hlt2 ⊢
      have H2 := hide (And.intro (And.intro hrow hM) (And.intro hb2 hlt2))
      have HS := hide eg4
      clear hrow hM hb2 hlt2 eg4
      go_wp2_with fail
      refine (clone_any oa n ca (nats L) w2 ((unhide HA1).later (unhide H2).2.1) hn).mono ?_
      rintro e w3 ⟨oa3, ca3, rfl, hA3, hb3⟩
      have hrow3 : w3.heap[g4]? = some (rowObj (bools S) 4) := by rw [hb3.block g4 (unhide H2).2.2]; exact (unhide H2).1.1
      have hlt3 : g4 < w3.heap.size := Nat.lt_of_lt_of_le (unhide H2).2.2 hb3.size
      have hb03 : Below w'.heap.size w' w3 := (unhide H2).2.1.trans (hb3.mono (unhide H2).2.1.size)
      have hM := (unhide H2).1.2
      have H3 := hide (And.intro (And.intro hA3 hb03) (And.intro hrow3 (And.intro hM hlt3)))
      clear hA3 hb3 hrow3 hlt3 hb03 H2 hM
      go_upto_block 4 with fail
      refine loop3 (unhide H3).1.1 (unhide HL).2 hn ?_
      intro top u61 u62 u63 u64 u65 u66 u67 u68 u69 u70 u71 u72 u73 u74 u75 u76 u77 u78 ht
      dsimp only
      obtain ⟨ht, htop⟩ := ht
      obtain ⟨nw, enw⟩ : ∃ nw : Nat, nw = (top + 63) / 64 := ⟨_, rfl⟩
      have hnw : nw ≤ 1024 := by omega
      have ew : ((top : Int) + 63) / 64 = (nw : Int) := by omega
      have hLn : ∀ i, i < n → L.getD i 0 < 65536 ∧ L.getD i 0 / 64 < nw := by
        intro i hi
        have := htop i hi
        exact ⟨(unhide HL).2 i hi, by omega⟩
      have hmw := fun W => make26 nw (by omega) W
      have H4 := hide (And.intro enw (And.intro hLn htop))
      have b4 : Below w3.heap.size w3 (w3.alloc (rowObj (List.replicate nw (.int .u64 0)) 27)) := (Below.refl _ _).alloc (Nat.le_refl _) _
      have Hb4 := hide b4
      clear enw hLn htop b4
      go_upto_block 6 with fail
      refine loop4 (w0 := w3) (L := L) (F0 := List.replicate nw 0) (fun wr hb => (unhide H3).1.1.later hb) (unhide H4).2.1 hn hnw (Nat.le_refl _) (by rw [heap_alloc_new, words_zero]) (Bits.zero nw) (unhide Hb4) (by simp) ?_
      intro u10 u83 u84 u85 u86 u87 u88 u89 u90 u91 u92 u93 u94 u95 u96 u97 u98 u99 u100 u101 u102 u103 w4 hx4
      dsimp only
      obtain ⟨F, hrF, hB, hb4, hlt4⟩ := hx4
      obtain ⟨g8, eg8⟩ : ∃ g8, g8 = w3.heap.size := ⟨_, rfl⟩
      rw [← eg8] at hrF hlt4 ⊢
      have hrow4 : w4.heap[g4]? = some (rowObj (bools S) 4) := by rw [hb4.block g4 (unhide H3).2.2.2]; exact (unhide H3).2.1
      have hlt44 : g4 < w4.heap.size := Nat.lt_of_lt_of_le (unhide H3).2.2.2 hb4.size
      have hA4 := (unhide H3).1.1.later hb4
      have hb04 : Below w'.heap.size w' w4 := (unhide H3).1.2.trans (hb4.mono (unhide H3).1.2.size)
      have hlaw := plain_law (F := F) (L := L) (top := top) (by rw [← (unhide H4).1]; exact hB) (mem_lt (unhide HL).1 (unhide H4).2.2)
      have hal := asc_len L top
      have hM := (unhide H3).2.2.1
      have H5 := hide (And.intro (And.intro hA4 hb04) (And.intro (And.intro hrF hlt4) (And.intro hB hlaw)))
      have H5' := hide (And.intro hrow4 (And.intro hM hlt44))
      have H5a := hide hal
      clear hrF hB hb4 hlt4 eg8 hrow4 hlt44 hA4 hb04 hlaw hal hM H3 H4 Hb4 hmw
      go_upto_block 8 with fail
      refine loop5 (w0 := w4) (L := L) (unhide H5').1 (unhide H5').2.1 (unhide H5').2.2 ht ?_
      intro u11 u104 u105 u106 u107 u108 u109 u110 u111 u112 u113 u114 u115 u116 w5 hx5
      dsimp only
      obtain ⟨hown5, hb5⟩ := hx5
      obtain ⟨oc, cc, rfl, hC5⟩ := arg_of_owns hown5
      obtain ⟨T, eT⟩ : ∃ T, T = asc L top := ⟨_, rfl⟩
      have hlaw := (unhide H5).2.2.2
      have hal := unhide H5a
      rw [← eT] at hC5 hlaw hal ⊢
      have hA5 := (unhide H5).1.1.later hb5
      have hrF5 : w5.heap[g8]? = some (rowObj (words F) 27) := by rw [hb5.block g8 (unhide H5).2.1.2]; exact (unhide H5).2.1.1
      have hlt5 : g8 < w5.heap.size := Nat.lt_of_lt_of_le (unhide H5).2.1.2 hb5.size
      have hb05 := (unhide H5).1.2.trans (hb5.mono (unhide H5).1.2.size)
      have hB := (unhide H5).2.2.1
      have hT6 : T.length ≤ 65536 := by omega
      have hTn : ((T.length : Nat) : Int) ≤ 65536 := by omega
      have H6 := hide (And.intro (And.intro hA5 (And.intro hC5 hb05)) (And.intro (And.intro hrF5 hlt5) (And.intro hB hlaw)))
      clear hown5 hb5 hC5 hlaw hal hA5 hrF5 hlt5 hb05 hB H5 H5' H5a eT
      go_wp2_with fail
      refine (clone_any oa3 n ca3 (nats L) w5 (unhide H6).1.1 hn).mono ?_
      rintro e w6 ⟨oa6, ca6, rfl, hA6, hb6⟩
      have H7 := hide (And.intro hA6 hb6)
      clear hA6 hb6
      go_wp2_with fail
      refine (kept_facts oa6 none n ca6 0 0 n w6).mono ?_
      rintro e w7 ⟨rfl, hk7⟩
      have H8 := hide hk7
      clear hk7
      go_wp2_with fail
      refine (kept_facts none (some ⟨g8, 0, none⟩) 0 0 nw nw n w7).mono ?_
      rintro e w8 ⟨rfl, hk8⟩
      have H9 := hide hk8
      clear hk8
      go_wp2_with fail
      have b68 : Below w6.heap.size w6 w8 := (unhide H8).2.2.trans ((unhide H9).2.2.mono (unhide H8).2.2.size)
      refine (keach_listed w6.heap.size n ca6 oa6 L w8 hn (((unhide H9).2.2.cell (lt_of_cell (unhide H8).1)).trans (unhide H8).1) (((unhide H9).2.2.cell (lt_of_cell (unhide H8).2.1)).trans (unhide H8).2.1) ((unhide H7).1.later b68)).mono ?_
      rintro e w9 ⟨oa9, ca9, rfl, hA9, hb9⟩
      have b59 : Below w5.heap.size w5 w9 := (unhide H7).2.trans ((b68.trans (hb9.mono b68.size)).mono (unhide H7).2.size)
      have H10 := hide (And.intro hA9 (And.intro hb9 b59))
      clear b68 b59 hA9 hb9
      go_wp2_with fail
      refine (same_facts L oa9 oa3 n ca9 ca3 w9 hn (unhide H10).1 ((unhide H6).1.1.later (unhide H10).2.2)).mono ?_
      rintro e w10 ⟨rfl, hb10⟩
      have b510 := (unhide H10).2.2.trans (hb10.mono (unhide H10).2.2.size)
      have b810 := (unhide H10).2.1.trans (hb10.mono (unhide H10).2.1.size)
      have b010 := (unhide H6).1.2.2.trans (b510.mono (unhide H6).1.2.2.size)
      have H11 := hide (And.intro b510 (And.intro b810 b010))
      clear hb10 b510 b810 b010
      go_wp2_with fail
      refine (keach_packed w7.heap.size nw nw g8 F T w10 hnw (((unhide H11).2.1.cell (lt_of_cell (unhide H9).2.1)).trans (unhide H9).2.1) (by rw [(unhide H11).1.block g8 (unhide H6).2.1.2]; exact (unhide H6).2.1.1) (unhide H6).2.2.1.len (unhide H6).2.2.1.lt (unhide H6).2.2.2 hT6 (tab_later hw (unhide HTab) (unhide H11).2.2) (Nat.lt_of_lt_of_le hw (unhide H11).2.2.size)).mono ?_
      rintro e w11 ⟨oa11, ca11, rfl, hA11, hb11⟩
      have b511 := (unhide H11).1.trans (hb11.mono (unhide H11).1.size)
      have b011 := (unhide H11).2.2.trans (hb11.mono (unhide H11).2.2.size)
      have H12 := hide (And.intro hA11 (And.intro b511 b011))
      clear hA11 hb11 b511 b011
      go_wp2_with fail
      refine (same_facts T oa11 oc T.length ca11 cc w11 hT6 (unhide H12).1 ((unhide H6).1.2.1.later (unhide H12).2.1)).mono ?_
      rintro e w12 ⟨rfl, hb12⟩
      have H13 := hide ((unhide H12).2.2.trans (hb12.mono (unhide H12).2.2.size))
      clear hb12
      go_wp2
      go_ret
      exact ⟨rfl, unhide H13⟩
    · go_wp2
      go_ret
      exact ⟨rfl, Below.refl _ _⟩

end Go.Proofs.Qxb6616078aDoor
