import Derived.Test.Qxb6617690aZZ
namespace Go.Proofs.Qxb6617690a
open Go.RowKit Plain

/-- What the search answers, in natural numbers measured from the stretches' starts. -/
structure Middle (A B : List Int) (u0 v0 u1 v1 : Nat) : Prop where
  u01 : u0 ≤ u1
  u1n : u1 ≤ A.length
  v01 : v0 ≤ v1
  v1m : v1 ≤ B.length
  same : u1 - u0 = v1 - v0
  run : ∀ i, i < u1 - u0 → A.getD (u0 + i) 0 = B.getD (v0 + i) 0
  before : Ei (mtL A B) u0 v0 = (Ei (mtL A B) A.length B.length + 1) / 2
  after : Ei (mtL A.reverse B.reverse) ((A.length : Int) - u1) ((B.length : Int) - v1) = Ei (mtL A B) A.length B.length / 2

theorem mtL_eq {A B : List Int} {i j : Nat} (h : mtL A B i j = true) : i < A.length ∧ j < B.length ∧ A.getD i 0 = B.getD j 0 := by
  unfold mtL at h
  simpa using h

theorem good_ans {A B : List Int} {R : Bool × Int × Int × List Int × List Int} (hG : Plain.Good A B R) :
    ∃ u0 v0 u1 v1 : Nat, Middle A B u0 v0 u1 v1 ∧ ∀ aLo bLo aHi bHi : Nat, aHi = aLo + A.length → bHi = bLo + B.length →
      ans aLo bLo aHi bHi A B R = .tuple #[.int .i64 ((aLo + u0 : Nat) : Int), .int .i64 ((bLo + v0 : Nat) : Int), .int .i64 ((aLo + u1 : Nat) : Int), .int .i64 ((bLo + v1 : Nat) : Int)] := by
  obtain ⟨f, k, s, F, G⟩ := R
  cases f with
  | true =>
    have g : Plain.Found (mtL A B) (mtL A.reverse B.reverse) A.length B.length k s (runEnd A B s k) ((Ei (mtL A B) A.length B.length + 1) / 2) (Ei (mtL A B) A.length B.length / 2) := hG
    obtain ⟨x, hx⟩ : ∃ x, x = runEnd A B s k := ⟨_, rfl⟩
    rw [← hx] at g
    have s0 := g.s0
    have sk := g.sk
    have sx := g.sx
    have xn := g.xn
    have ym := g.ym
    refine ⟨s.toNat, (s - k).toNat, x.toNat, (x - k).toNat, ⟨by omega, by omega, by omega, by omega, by omega, ?_, ?_, ?_⟩, ?_⟩
    · intro i hi
      have h := mtL_eq (g.run i (by omega))
      rw [show (s + (i : Int)).toNat = s.toNat + i from by omega, show (s + (i : Int) - k).toNat = (s - k).toNat + i from by omega] at h
      exact h.2.2
    · rw [Int.toNat_of_nonneg s0, Int.toNat_of_nonneg (by omega)]
      exact g.near
    · rw [Int.toNat_of_nonneg (by omega), Int.toNat_of_nonneg (by omega)]
      exact g.far
    · intro aLo bLo aHi bHi _ _
      simp only [ans, ← hx]
      rw [show ((aLo + s.toNat : Nat) : Int) = (aLo : Int) + s from by omega, show ((bLo + (s - k).toNat : Nat) : Int) = (bLo : Int) + (s - k) from by omega,
        show ((aLo + x.toNat : Nat) : Int) = (aLo : Int) + x from by omega, show ((bLo + (x - k).toNat : Nat) : Int) = (bLo : Int) + (x - k) from by omega]
  | false =>
    have g : Plain.Found (mtL A.reverse B.reverse) (mtL A B) A.length B.length k s (runEnd A.reverse B.reverse s k) (Ei (mtL A B) A.length B.length / 2) ((Ei (mtL A B) A.length B.length + 1) / 2) := hG
    obtain ⟨x, hx⟩ : ∃ x, x = runEnd A.reverse B.reverse s k := ⟨_, rfl⟩
    rw [← hx] at g
    have s0 := g.s0
    have sk := g.sk
    have sx := g.sx
    have xn := g.xn
    have ym := g.ym
    refine ⟨A.length - x.toNat, B.length - (x - k).toNat, A.length - s.toNat, B.length - (s - k).toNat, ⟨by omega, by omega, by omega, by omega, by omega, ?_, ?_, ?_⟩, ?_⟩
    · intro i hi
      have h := mtL_eq (g.run (x.toNat - s.toNat - 1 - i) (by omega))
      have e1 : (s + ((x.toNat - s.toNat - 1 - i : Nat) : Int)).toNat = x.toNat - 1 - i := by omega
      have e2 : (s + ((x.toNat - s.toNat - 1 - i : Nat) : Int) - k).toNat = (x - k).toNat - 1 - i := by omega
      rw [e1, e2, List.length_reverse, List.length_reverse] at h
      have h3 := h.2.2
      rw [getD_reverse A _ h.1, getD_reverse B _ h.2.1] at h3
      rw [show A.length - x.toNat + i = A.length - 1 - (x.toNat - 1 - i) from by omega, show B.length - (x - k).toNat + i = B.length - 1 - ((x - k).toNat - 1 - i) from by omega]
      exact h3
    · rw [show ((A.length - x.toNat : Nat) : Int) = (A.length : Int) - x from by omega, show ((B.length - (x - k).toNat : Nat) : Int) = (B.length : Int) - (x - k) from by omega]
      exact g.far
    · rw [show (A.length : Int) - ((A.length - s.toNat : Nat) : Int) = s from by omega, show (B.length : Int) - ((B.length - (s - k).toNat : Nat) : Int) = s - k from by omega]
      exact g.near
    · intro aLo bLo aHi bHi ha hb
      simp only [ans, ← hx]
      rw [show ((aLo + (A.length - x.toNat) : Nat) : Int) = (aHi : Int) - x from by omega, show ((bLo + (B.length - (x - k).toNat) : Nat) : Int) = (bHi : Int) - (x - k) from by omega,
        show ((aLo + (A.length - s.toNat) : Nat) : Int) = (aHi : Int) - s from by omega, show ((bLo + (B.length - (s - k).toNat) : Nat) : Int) = (bHi : Int) - (s - k) from by omega]

theorem outer_length (A B : List Int) (odd : Bool) (delta n off : Int) : ∀ (c : Nat) (d : Int) (F G : List Int) R, outer A B odd delta n off c d F G = some R → R.2.2.2.1.length = F.length ∧ R.2.2.2.2.length = G.length
  | 0, _, _, _, _, h => by simp [outer] at h
  | c + 1, d, F, G, R, h => by
    unfold outer at h
    have lF := inner_length A B off d (chkF odd delta n off d G) (d.toNat + 1) (-d) F
    generalize inner A B off d (chkF odd delta n off d G) (d.toNat + 1) (-d) F = RF at h lF
    obtain ⟨F', rF⟩ := RF
    cases rF with
    | some ks =>
      obtain rfl := Option.some.inj h
      exact ⟨lF, rfl⟩
    | none =>
      simp only at h
      have lG := inner_length A.reverse B.reverse off d (chkB odd delta n off d F') (d.toNat + 1) (-d) G
      generalize inner A.reverse B.reverse off d (chkB odd delta n off d F') (d.toNat + 1) (-d) G = RG at h lG
      obtain ⟨G', rG⟩ := RG
      cases rG with
      | some ks =>
        obtain rfl := Option.some.inj h
        exact ⟨lF, lG⟩
      | none =>
        have := outer_length A B odd delta n off c (d + 1) F' G' R h
        exact ⟨this.1.trans lF, this.2.trans lG⟩

/-- THE SEARCH AS A WHOLE: what it is handed suffices; what it answers. -/
theorem search_all (A B F G : List Int) (half off : Nat) (hhalf : half = (A.length + B.length + 1) / 2) (ho : half ≤ off) (hF : off + half + 1 < F.length) (hG : off + half + 1 < G.length) :
    ∃ R u0 v0 u1 v1, outer A B (decide (((A.length : Int) - B.length) % 2 ≠ 0)) ((A.length : Int) - B.length) A.length off (half + 1) 0 (F.set (off + 1) 0) (G.set (off + 1) 0) = some R ∧ Middle A B u0 v0 u1 v1 ∧
      R.2.2.2.1.length = F.length ∧ R.2.2.2.2.length = G.length ∧
      ∀ aLo bLo aHi bHi : Nat, aHi = aLo + A.length → bHi = bLo + B.length →
      ans aLo bLo aHi bHi A B R = .tuple #[.int .i64 ((aLo + u0 : Nat) : Int), .int .i64 ((bLo + v0 : Nat) : Int), .int .i64 ((aLo + u1 : Nat) : Int), .int .i64 ((bLo + v1 : Nat) : Int)] := by
  have D0 := Ei_nonneg (mtL A B) (x := A.length) (y := B.length) (by omega) (by omega)
  obtain ⟨R, hR, hg⟩ := outer_finds (A := A) (B := B) (off := off) (odd := decide (((A.length : Int) - B.length) % 2 ≠ 0)) rfl (half + 1) 0 (F.set (off + 1) 0) (G.set (off + 1) 0) (by omega) (by omega) (by omega) (by rw [List.length_set]; omega) (by rw [List.length_set]; omega)
    (prev_first A B off F (by omega)) (prev_first A.reverse B.reverse off G (by omega)) (fun _ => by omega) (fun _ => by omega)
  obtain ⟨u0, v0, u1, v1, hm, ha⟩ := good_ans hg
  have hl := outer_length A B (decide (((A.length : Int) - B.length) % 2 ≠ 0)) ((A.length : Int) - B.length) A.length off (half + 1) 0 (F.set (off + 1) 0) (G.set (off + 1) 0) R hR
  rw [List.length_set, List.length_set] at hl
  exact ⟨R, u0, v0, u1, v1, hR, hm, hl.1, hl.2, ha⟩
end Go.Proofs.Qxb6617690a
