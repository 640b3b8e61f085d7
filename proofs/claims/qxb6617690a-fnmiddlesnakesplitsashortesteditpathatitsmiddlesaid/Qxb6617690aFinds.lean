/- Plain mathematics, no Go in sight: the search finds the middle of a shortest edit path. -/
import Derived.Test.Qxb6617690aSearch
namespace Go.Proofs.Qxb6617690a.Plain

theorem mtL_past_row (A B : List Int) (i j : Nat) (h : A.length ≤ i) : mtL A B i j = false := by
  have : ¬ i < A.length := by omega
  simp [mtL, this]

theorem mtL_past_col (A B : List Int) (i j : Nat) (h : B.length ≤ j) : mtL A B i j = false := by
  have : ¬ j < B.length := by omega
  simp [mtL, this]

theorem getD_reverse (A : List Int) (i : Nat) (h : i < A.length) : A.reverse.getD i 0 = A.getD (A.length - 1 - i) 0 := by
  rw [List.getD_eq_getElem?_getD, List.getElem?_reverse h, ← List.getD_eq_getElem?_getD]

theorem mtL_reverse (A B : List Int) : mtL A.reverse B.reverse = turn A.length B.length (mtL A B) := by
  funext i j
  by_cases hi : i < A.length
  · by_cases hj : j < B.length
    · have h1 : A.length - 1 - i < A.length := by omega
      have h2 : B.length - 1 - j < B.length := by omega
      unfold mtL turn
      rw [getD_reverse A i hi, getD_reverse B j hj]
      simp [hi, hj, h1, h2]
    · simp [mtL, turn, hj]
  · simp [mtL, turn, hi]

section
variable (A B : List Int)

theorem Ei_past_x {x y : Int} (hx : (A.length : Int) ≤ x) : Ei (mtL A B) x y = (x - A.length) + Ei (mtL A B) A.length y := by
  have h := T_past_row (mt := mtL A B) (n := A.length) (fun i j hi => mtL_past_row A B i j hi) y.toNat (x.toNat - A.length)
  have e : A.length + (x.toNat - A.length) = x.toNat := by omega
  rw [e] at h
  unfold Ei
  rw [h]
  have e2 : ((A.length : Int)).toNat = A.length := by omega
  rw [e2]
  omega

theorem Ei_past_y {x y : Int} (hy : (B.length : Int) ≤ y) : Ei (mtL A B) x y = (y - B.length) + Ei (mtL A B) x B.length := by
  have h := T_past_col (mt := mtL A B) (m := B.length) (fun i j hi => mtL_past_col A B i j hi) x.toNat (y.toNat - B.length)
  have e : B.length + (y.toNat - B.length) = y.toNat := by omega
  rw [e] at h
  unfold Ei
  rw [h]
  have e2 : ((B.length : Int)).toNat = B.length := by omega
  rw [e2]
  omega

theorem Ei_nonneg (mt : Nat → Nat → Bool) {x y : Int} (hx : 0 ≤ x) (hy : 0 ≤ y) : 0 ≤ Ei mt x y := by
  have := Ei_ge (mt := mt) hx hy
  omega

/-- What the furthest point can be, at most. -/
theorem FP.bound {A B : List Int} {d k x : Int} (h : FP (mtL A B) d k x) (d0 : 0 ≤ d) : x ≤ A.length + d := by
  by_cases hc : (A.length : Int) ≤ x
  · have h1 := Ei_past_x A B (y := x - k) hc
    have h2 := h.here
    have h3 := Ei_nonneg (mtL A B) (x := A.length) (y := x - k) (by omega) (by have := h.xk; omega)
    omega
  · omega

theorem Ei_total_x {y : Int} (h0 : 0 ≤ y) (h : y ≤ B.length) : Ei (mtL A B) A.length B.length ≤ Ei (mtL A B) A.length y + (B.length - y) := by
  have h1 := T_mono_right (mtL A B) A.length (B.length - y.toNat) y.toNat
  have e : y.toNat + (B.length - y.toNat) = B.length := by omega
  rw [e] at h1
  unfold Ei
  have e1 : ((A.length : Int)).toNat = A.length := by omega
  have e2 : ((B.length : Int)).toNat = B.length := by omega
  rw [e1, e2]
  omega

theorem Ei_total_y {x : Int} (h0 : 0 ≤ x) (h : x ≤ A.length) : Ei (mtL A B) A.length B.length ≤ Ei (mtL A B) x B.length + (A.length - x) := by
  have h1 := T_mono_down (mtL A B) B.length (A.length - x.toNat) x.toNat
  have e : x.toNat + (A.length - x.toNat) = A.length := by omega
  rw [e] at h1
  unfold Ei
  have e1 : ((A.length : Int)).toNat = A.length := by omega
  have e2 : ((B.length : Int)).toNat = B.length := by omega
  rw [e1, e2]
  omega

/-- THE POINTS THAT ARE LOOKED AT LIE INSIDE. -/
theorem in_grid {x k d r : Int} (x0 : 0 ≤ x) (xk : k ≤ x) (he : Ei (mtL A B) x (x - k) ≤ d) (k0 : (A.length : Int) - B.length - r ≤ k) (k1 : k ≤ (A.length : Int) - B.length + r)
    (hD : d + r ≤ Ei (mtL A B) A.length B.length) : x ≤ A.length ∧ x - k ≤ B.length := by
  by_cases cx : x ≤ A.length
  · by_cases cy : x - k ≤ B.length
    · exact ⟨cx, cy⟩
    · exfalso
      have h1 := Ei_past_y A B (x := x) (y := x - k) (by omega)
      have h2 := Ei_total_y A B x0 cx
      omega
  · exfalso
    have h1 := Ei_past_x A B (x := x) (y := x - k) (by omega)
    by_cases cy : x - k ≤ B.length
    · have h2 := Ei_total_x A B (y := x - k) (by omega) cy
      omega
    · have h2 := Ei_past_y A B (x := A.length) (y := x - k) (by omega)
      omega

theorem Ei_meet {x y : Int} (x0 : 0 ≤ x) (y0 : 0 ≤ y) (x1 : x ≤ A.length) (y1 : y ≤ B.length) :
    Ei (mtL A B) A.length B.length ≤ Ei (mtL A B) x y + Ei (mtL A.reverse B.reverse) (A.length - x) (B.length - y) := by
  have h := T_meet A.length B.length (mtL A B) x.toNat y.toNat (by omega) (by omega)
  rw [mtL_reverse]
  unfold Ei
  have e1 : ((A.length : Int)).toNat = A.length := by omega
  have e2 : ((B.length : Int)).toNat = B.length := by omega
  have e3 : ((A.length : Int) - x).toNat = A.length - x.toNat := by omega
  have e4 : ((B.length : Int) - y).toNat = B.length - y.toNat := by omega
  rw [e1, e2, e3, e4]
  omega

theorem Ei_way {e : Int} (e0 : 0 ≤ e) (e1 : e ≤ Ei (mtL A B) A.length B.length) :
    ∃ x y : Int, 0 ≤ x ∧ 0 ≤ y ∧ x ≤ A.length ∧ y ≤ B.length ∧ Ei (mtL A B) x y = e ∧ Ei (mtL A.reverse B.reverse) (A.length - x) (B.length - y) = Ei (mtL A B) A.length B.length - e := by
  have q1 : ((A.length : Int)).toNat = A.length := by omega
  have q2 : ((B.length : Int)).toNat = B.length := by omega
  unfold Ei at e1
  rw [q1, q2] at e1
  obtain ⟨x, y, hx, hy, ho, he⟩ := T_way A.length B.length (mtL A B) _ A.length B.length rfl (Nat.le_refl _) (Nat.le_refl _) (by rw [Nat.sub_self, T_zero]; rfl) e.toNat (by omega)
  refine ⟨x, y, by omega, by omega, by omega, by omega, ?_, ?_⟩
  · unfold Ei
    have a1 : ((x : Int)).toNat = x := by omega
    have a2 : ((y : Int)).toNat = y := by omega
    rw [a1, a2]
    omega
  · rw [mtL_reverse]
    unfold Ei
    have e3 : ((A.length : Int) - (x : Int)).toNat = A.length - x := by omega
    have e4 : ((B.length : Int) - (y : Int)).toNat = B.length - y := by omega
    rw [q1, q2, e3, e4]
    omega

theorem Ei_turn : Ei (mtL A.reverse B.reverse) A.length B.length = Ei (mtL A B) A.length B.length := by
  rw [mtL_reverse]
  unfold Ei
  have q1 : ((A.length : Int)).toNat = A.length := by omega
  have q2 : ((B.length : Int)).toNat = B.length := by omega
  rw [q1, q2, T_turn]

theorem Ei_par (mt : Nat → Nat → Bool) (x y : Int) : (Ei mt x y + x + y) % 2 = 0 := by unfold Ei; omega

theorem Ei_le_sum (mt : Nat → Nat → Bool) (x y : Int) : Ei mt x y ≤ x + y := by unfold Ei; omega
end

/-- WHAT THE SEARCH FINDS: seen from the end at which it was found ('mt', 'mt'': the matches seen from there, and from the other). -/
structure Found (mt mt' : Nat → Nat → Bool) (n m k s x near far : Int) : Prop where
  s0 : 0 ≤ s
  sk : k ≤ s
  sx : s ≤ x
  xn : x ≤ n
  ym : x - k ≤ m
  run : ∀ i : Nat, (i : Int) < x - s → mt (s + i).toNat (s + i - k).toNat = true
  near : Ei mt s (s - k) = near
  far : Ei mt' (n - x) (m - (x - k)) = far

/-- One side's detection. d: the rounds of the side that looks; r: the edits of the other side. -/
theorem found_of {A B : List Int} {d r k s g : Int} (hit : Hit (mtL A B) d k s (runEnd A B s k))
    (k0 : (A.length : Int) - B.length - r ≤ k) (k1 : k ≤ (A.length : Int) - B.length + r)
    (hg : FP (mtL A.reverse B.reverse) r ((A.length : Int) - B.length - k) g) (ho : (A.length : Int) ≤ runEnd A B s k + g)
    (hD : d + r ≤ Ei (mtL A B) A.length B.length) :
    Ei (mtL A B) A.length B.length = d + r ∧ Found (mtL A B) (mtL A.reverse B.reverse) A.length B.length k s (runEnd A B s k) d r := by
  have gr := in_grid A B hit.far.x0 hit.far.xk hit.far.here k0 k1 hD
  have x0 := hit.far.x0
  have xk := hit.far.xk
  have he := hit.far.here
  have hr := hg.le (z := (A.length : Int) - runEnd A B s k) (by omega) (by omega) (by omega)
  have e : (A.length : Int) - runEnd A B s k - ((A.length : Int) - B.length - k) = B.length - (runEnd A B s k - k) := by omega
  rw [e] at hr
  have hm := Ei_meet A B (x := runEnd A B s k) (y := runEnd A B s k - k) x0 (by omega) gr.1 gr.2
  have hs := hit.same
  exact ⟨by omega, hit.s0, hit.sk, hit.sx, gr.1, gr.2, hit.run, by omega, by omega⟩

/-- Where the sum of edits is just d + r, the two sides' tables overlap on some diagonal. -/
theorem overlap_of {A B : List Int} {d r : Int} (d0 : 0 ≤ d) (r0 : 0 ≤ r) (hD : Ei (mtL A B) A.length B.length = d + r) :
    ∃ k : Int, -d ≤ k ∧ k ≤ d ∧ (k + d) % 2 = 0 ∧ (A.length : Int) - B.length - r ≤ k ∧ k ≤ (A.length : Int) - B.length + r ∧
      ∀ f g, FP (mtL A B) d k f → FP (mtL A.reverse B.reverse) r ((A.length : Int) - B.length - k) g → (A.length : Int) ≤ f + g := by
  obtain ⟨x, y, x0, y0, x1, y1, h1, h2⟩ := Ei_way A B (e := d) d0 (by omega)
  have g1 := Ei_ge (mt := mtL A B) x0 y0
  have g2 := Ei_ge (mt := mtL A.reverse B.reverse) (x := A.length - x) (y := B.length - y) (by omega) (by omega)
  have p := Ei_par (mtL A B) x y
  refine ⟨x - y, by omega, by omega, by omega, by omega, by omega, fun f g hf hg => ?_⟩
  have a := hf.max (z := x) (by rw [show x - (x - y) = y from by omega]; omega)
  have b := hg.max (z := (A.length : Int) - x) (by rw [show (A.length : Int) - x - ((A.length : Int) - B.length - (x - y)) = B.length - y from by omega]; omega)
  omega

/-- The answer as the two ends give it. -/
def Good (A B : List Int) : Bool × Int × Int × List Int × List Int → Prop
  | (true, k, s, _, _) => Found (mtL A B) (mtL A.reverse B.reverse) A.length B.length k s (runEnd A B s k) ((Ei (mtL A B) A.length B.length + 1) / 2) (Ei (mtL A B) A.length B.length / 2)
  | (false, k, s, _, _) => Found (mtL A.reverse B.reverse) (mtL A B) A.length B.length k s (runEnd A.reverse B.reverse s k) (Ei (mtL A B) A.length B.length / 2) ((Ei (mtL A B) A.length B.length + 1) / 2)

theorem prev_next {A B : List Int} {off d : Int} {F : List Int} (d0 : 0 ≤ d) (h : ∀ k, -d ≤ k → k ≤ d → (k + d) % 2 = 0 → FP (mtL A B) d k (tb F off k)) : Prev (mtL A B) off (d + 1) F := by
  refine ⟨fun e => by omega, fun k a b p => ?_⟩
  rw [show d + 1 - 1 = d from by omega]
  exact h k (by omega) (by omega) (by omega)

theorem outer_finds {A B : List Int} {off : Int} {odd : Bool} (hodd : odd = decide (((A.length : Int) - B.length) % 2 ≠ 0)) :
    ∀ (c : Nat) (d : Int) (F G : List Int), 0 ≤ d → (c : Int) + d = ((A.length : Int) + B.length + 1) / 2 + 1 →
      ((A.length : Int) + B.length + 1) / 2 ≤ off → off + ((A.length : Int) + B.length + 1) / 2 + 1 < F.length → off + ((A.length : Int) + B.length + 1) / 2 + 1 < G.length →
      Prev (mtL A B) off d F → Prev (mtL A.reverse B.reverse) off d G → (odd = true → 2 * d - 1 ≤ Ei (mtL A B) A.length B.length) → (odd = false → 2 * d ≤ Ei (mtL A B) A.length B.length) →
      ∃ r, outer A B odd ((A.length : Int) - B.length) A.length off c d F G = some r ∧ Good A B r := by
  intro c
  induction c with
  | zero =>
    intro d F G d0 hc _ _ _ _ _ h1 h2
    exfalso
    have := Ei_le_sum (mtL A B) A.length B.length
    cases odd
    · have := h2 rfl
      omega
    · have := h1 rfl
      omega
  | succ c ih =>
    intro d F G d0 hc ho hF hG PF PG h1 h2
    have pD := Ei_par (mtL A B) A.length B.length
    have hF' : off + d < F.length := by omega
    have hG' : off + d < G.length := by omega
    have hdo : d ≤ off := by omega
    have sF := inner_spec (A := A) (B := B) (off := off) (d := d) (chk := chkF odd ((A.length : Int) - B.length) A.length off d G) d0 (d.toNat + 1) (-d) F hdo hF' (by omega) (by omega) PF (fun k' a b _ => by omega)
    have lF := inner_length A B off d (chkF odd ((A.length : Int) - B.length) A.length off d G) (d.toNat + 1) (-d) F
    unfold outer
    generalize inner A B off d (chkF odd ((A.length : Int) - B.length) A.length off d G) (d.toNat + 1) (-d) F = RF at sF lF ⊢
    obtain ⟨F', rF⟩ := RF
    cases rF with
    | some ks =>
      obtain ⟨k, s⟩ := ks
      refine ⟨_, rfl, ?_⟩
      obtain ⟨hit, _, hchk⟩ := sF.2 k s rfl
      unfold chkF at hchk
      simp only [Bool.and_eq_true, decide_eq_true_eq] at hchk
      obtain ⟨od, c1, c2, c3⟩ := hchk
      rw [od] at hodd
      have od' : ((A.length : Int) - B.length) % 2 ≠ 0 := by simpa using hodd
      have par := hit.par
      have hg := PG.past ((A.length : Int) - B.length - k) (by omega) (by omega) (by omega)
      have fo := found_of (r := d - 1) hit c1 c2 hg c3 (by have := h1 od; omega)
      have e1 : (Ei (mtL A B) A.length B.length + 1) / 2 = d := by omega
      have e2 : Ei (mtL A B) A.length B.length / 2 = d - 1 := by omega
      show Found _ _ _ _ _ _ _ _ _
      rw [e1, e2]
      exact fo.2
    | none =>
      have allF : ∀ k', -d ≤ k' → k' ≤ d → (k' + d) % 2 = 0 → FP (mtL A B) d k' (tb F' off k') ∧ chkF odd ((A.length : Int) - B.length) A.length off d G k' (tb F' off k') = false := sF.1 rfl
      have PF' : Prev (mtL A B) off (d + 1) F' := prev_next d0 fun k a b p => (allF k a b p).1
      have sG := inner_spec (A := A.reverse) (B := B.reverse) (off := off) (d := d) (chk := chkB odd ((A.length : Int) - B.length) A.length off d F') d0 (d.toNat + 1) (-d) G hdo hG' (by omega) (by omega) PG (fun k' a b _ => by omega)
      have lG := inner_length A.reverse B.reverse off d (chkB odd ((A.length : Int) - B.length) A.length off d F') (d.toNat + 1) (-d) G
      simp only
      generalize inner A.reverse B.reverse off d (chkB odd ((A.length : Int) - B.length) A.length off d F') (d.toNat + 1) (-d) G = RG at sG lG ⊢
      obtain ⟨G', rG⟩ := RG
      have lA : (A.reverse.length : Int) = A.length := by simp
      have lB : (B.reverse.length : Int) = B.length := by simp
      have tD := Ei_turn A B
      cases rG with
      | some ks =>
        obtain ⟨k, s⟩ := ks
        refine ⟨_, rfl, ?_⟩
        obtain ⟨hit, _, hchk⟩ := sG.2 k s rfl
        unfold chkB at hchk
        simp only [Bool.and_eq_true, decide_eq_true_eq, Bool.not_eq_true'] at hchk
        obtain ⟨od, c1, c2, c3⟩ := hchk
        rw [od] at hodd
        have od' : ((A.length : Int) - B.length) % 2 = 0 := by simpa using hodd
        have par := hit.par
        have hg := (allF ((A.length : Int) - B.length - k) (by omega) (by omega) (by omega)).1
        have fo := found_of (A := A.reverse) (B := B.reverse) (r := d) hit (by omega) (by omega) (by rw [List.reverse_reverse, List.reverse_reverse, lA, lB]; exact hg) (by omega) (by rw [lA, lB, tD]; have := h2 od; omega)
        rw [List.reverse_reverse, List.reverse_reverse, lA, lB, tD] at fo
        have e1 : (Ei (mtL A B) A.length B.length + 1) / 2 = d := by omega
        have e2 : Ei (mtL A B) A.length B.length / 2 = d := by omega
        show Found _ _ _ _ _ _ _ _ _
        rw [e1, e2]
        exact fo.2
      | none =>
        have allG : ∀ k', -d ≤ k' → k' ≤ d → (k' + d) % 2 = 0 → FP (mtL A.reverse B.reverse) d k' (tb G' off k') ∧ chkB odd ((A.length : Int) - B.length) A.length off d F' k' (tb G' off k') = false := sG.1 rfl
        have PG' : Prev (mtL A.reverse B.reverse) off (d + 1) G' := prev_next d0 fun k a b p => (allG k a b p).1
        refine ih (d + 1) F' G' (by omega) (by omega) ho (by simp only at lF; omega) (by simp only at lG; omega) PF' PG' ?_ ?_
        · intro od
          have hh := h1 od
          rw [od] at hodd
          have od' : ((A.length : Int) - B.length) % 2 ≠ 0 := by simpa using hodd
          by_cases hc : Ei (mtL A B) A.length B.length = d + (d - 1)
          · exfalso
            have D0 := Ei_nonneg (mtL A B) (x := A.length) (y := B.length) (by omega) (by omega)
            obtain ⟨k, a1, a2, a3, a4, a5, a6⟩ := overlap_of (r := d - 1) d0 (by omega) hc
            have f1 := allF k a1 a2 a3
            have g1 := PG.past ((A.length : Int) - B.length - k) (by omega) (by omega) (by omega)
            have ov := a6 _ _ f1.1 g1
            have f2 := f1.2
            unfold chkF at f2
            simp only [od, a4, a5, ov, decide_true, Bool.and_self] at f2
            cases f2
          · omega
        · intro od
          have hh := h2 od
          rw [od] at hodd
          have od' : ((A.length : Int) - B.length) % 2 = 0 := by simpa using hodd
          by_cases hc : Ei (mtL A B) A.length B.length = d + d
          · exfalso
            obtain ⟨k, a1, a2, a3, a4, a5, a6⟩ := overlap_of (r := d) d0 d0 hc
            have g1 := allG ((A.length : Int) - B.length - k) (by omega) (by omega) (by omega)
            have f1 := allF k a1 a2 a3
            have ov := a6 _ _ f1.1 g1.1
            have g2 := g1.2
            unfold chkB at g2
            have b1 : (A.length : Int) - B.length - d ≤ (A.length : Int) - B.length - k := by omega
            have b2 : (A.length : Int) - B.length - k ≤ (A.length : Int) - B.length + d := by omega
            have b3 : (A.length : Int) - B.length - ((A.length : Int) - B.length - k) = k := by omega
            rw [b3] at g2
            have b4 : (A.length : Int) ≤ tb G' off ((A.length : Int) - B.length - k) + tb F' off k := by omega
            simp only [od, b1, b2, b4, decide_true, Bool.and_self, Bool.not_false] at g2
            cases g2
          · omega

end Go.Proofs.Qxb6617690a.Plain
