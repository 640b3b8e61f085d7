/- Plain mathematics, no Go in sight: Myers' search from both ends, as a plain function over lists, and what it finds. -/
import Derived.Test.Qxb6617690aLcs
namespace Go.Proofs.Qxb6617690a.Plain

/-- The least number of edits from (0, 0) to (x, y). -/
def Ei (mt : Nat → Nat → Bool) (x y : Int) : Int := x + y - 2 * (T mt x.toNat y.toNat : Int)

section
variable {mt : Nat → Nat → Bool} {x y : Int}

theorem Ei_hit (hx : 0 ≤ x) (hy : 0 ≤ y) (h : mt x.toNat y.toNat = true) : Ei mt (x + 1) (y + 1) = Ei mt x y := by
  have e1 : (x + 1).toNat = x.toNat + 1 := by omega
  have e2 : (y + 1).toNat = y.toNat + 1 := by omega
  unfold Ei
  rw [e1, e2, T_hit h]
  omega

theorem Ei_miss (hx : 0 ≤ x) (hy : 0 ≤ y) (h : ¬ mt x.toNat y.toNat = true) : Ei mt (x + 1) (y + 1) = 1 + Ei mt x (y + 1) ∨ Ei mt (x + 1) (y + 1) = 1 + Ei mt (x + 1) y := by
  have e1 : (x + 1).toNat = x.toNat + 1 := by omega
  have e2 : (y + 1).toNat = y.toNat + 1 := by omega
  have := T_miss h
  unfold Ei
  rw [e1, e2]
  omega

theorem Ei_diag (hx : 0 ≤ x) (hy : 0 ≤ y) : Ei mt x y ≤ Ei mt (x + 1) (y + 1) := by
  have e1 : (x + 1).toNat = x.toNat + 1 := by omega
  have e2 : (y + 1).toNat = y.toNat + 1 := by omega
  have := T_diag mt x.toNat y.toNat
  unfold Ei
  rw [e1, e2]
  omega

theorem Ei_right (hx : 0 ≤ x) : Ei mt (x + 1) y ≤ Ei mt x y + 1 := by
  have e1 : (x + 1).toNat = x.toNat + 1 := by omega
  have := T_down mt x.toNat y.toNat
  unfold Ei
  rw [e1]
  omega

theorem Ei_down (hy : 0 ≤ y) : Ei mt x (y + 1) ≤ Ei mt x y + 1 := by
  have e1 : (y + 1).toNat = y.toNat + 1 := by omega
  have := T_right mt x.toNat y.toNat
  unfold Ei
  rw [e1]
  omega

theorem Ei_ge (hx : 0 ≤ x) (hy : 0 ≤ y) : x - y ≤ Ei mt x y ∧ y - x ≤ Ei mt x y := by
  have h1 := T_le_left mt y.toNat x.toNat
  have h2 := T_le_right mt x.toNat y.toNat
  unfold Ei
  omega
end

theorem Ei_mono (mt : Nat → Nat → Bool) (k : Int) : ∀ (t : Nat) (x : Int), 0 ≤ x → k ≤ x → Ei mt x (x - k) ≤ Ei mt (x + t) (x + t - k)
  | 0, x, _, _ => by simp
  | t + 1, x, hx, hk => by
    have h1 := Ei_mono mt k t x hx hk
    have h2 := Ei_diag (mt := mt) (x := x + t) (y := x + t - k) (by omega) (by omega)
    have e : x + ((t + 1 : Nat) : Int) = x + t + 1 := by omega
    have e' : x + t - k + 1 = x + t + 1 - k := by omega
    rw [e' ] at h2
    rw [e]
    omega

/-- x is the furthest on diagonal k that d edits reach. -/
structure FP (mt : Nat → Nat → Bool) (d k x : Int) : Prop where
  x0 : 0 ≤ x
  xk : k ≤ x
  here : Ei mt x (x - k) ≤ d
  next : d < Ei mt (x + 1) (x + 1 - k)

theorem FP.le {mt : Nat → Nat → Bool} {d k x : Int} (h : FP mt d k x) {z : Int} (z0 : 0 ≤ z) (zk : k ≤ z) (hz : z ≤ x) : Ei mt z (z - k) ≤ d := by
  have := Ei_mono mt k (x - z).toNat z z0 zk
  have e : z + ((x - z).toNat : Int) = x := by omega
  rw [e] at this
  have := h.here
  omega

theorem FP.max {mt : Nat → Nat → Bool} {d k x : Int} (h : FP mt d k x) {z : Int} (hz : Ei mt z (z - k) ≤ d) : z ≤ x := by
  by_cases hc : z ≤ x
  · exact hc
  · exfalso
    have := Ei_mono mt k (z - (x + 1)).toNat (x + 1) (by have := h.x0; omega) (by have := h.xk; omega)
    have e : x + 1 + ((z - (x + 1)).toNat : Int) = z := by omega
    rw [e] at this
    have := h.next
    omega

/-! ### One step: where the furthest path on diagonal k begins its run, and where it ends it -/

theorem start_of {mt : Nat → Nat → Bool} {d k fl fr s : Int} (d0 : 0 ≤ d) (k0 : -d ≤ k) (k1 : k ≤ d) (hz : d = 0 → fr = 0)
    (hl : -d < k → FP mt (d - 1) (k - 1) fl) (hr : k < d → FP mt (d - 1) (k + 1) fr)
    (hs : s = if k = -d ∨ (k ≠ d ∧ fl < fr) then fr else fl + 1) :
    0 ≤ s ∧ k ≤ s ∧ Ei mt s (s - k) ≤ d ∧ (-d < k → fl + 1 ≤ s) ∧ (k < d → fr ≤ s) := by
  by_cases hd : d = 0
  · have := hz hd
    rw [if_pos (Or.inl (by omega))] at hs
    have e1 : s = 0 := by omega
    have e2 : k = 0 := by omega
    subst e1 e2 hd
    refine ⟨by omega, by omega, ?_, by omega, by omega⟩
    simp [Ei, T_zero]
  · have goR : k < d → s = fr → 0 ≤ s ∧ k ≤ s ∧ Ei mt s (s - k) ≤ d := by
      intro hk e
      subst e
      have h := hr hk
      have a1 := h.x0
      have a2 := h.xk
      have a3 := h.here
      have a4 := Ei_down (mt := mt) (x := s) (y := s - (k + 1)) (by omega)
      have e : s - (k + 1) + 1 = s - k := by omega
      rw [e] at a4
      exact ⟨by omega, by omega, by omega⟩
    have goL : -d < k → s = fl + 1 → 0 ≤ s ∧ k ≤ s ∧ Ei mt s (s - k) ≤ d := by
      intro hk e
      have h := hl hk
      have a1 := h.x0
      have a2 := h.xk
      have a3 := h.here
      have a4 := Ei_right (mt := mt) (x := fl) (y := fl - (k - 1)) (by omega)
      have e' : fl - (k - 1) = fl + 1 - k := by omega
      rw [e'] at a4 a3
      subst e
      exact ⟨by omega, by omega, by omega⟩
    by_cases c1 : k = -d
    · rw [if_pos (Or.inl c1)] at hs
      obtain ⟨g1, g2, g3⟩ := goR (by omega) hs
      exact ⟨g1, g2, g3, by omega, by omega⟩
    · by_cases c2 : k = d
      · rw [if_neg (by omega)] at hs
        obtain ⟨g1, g2, g3⟩ := goL (by omega) hs
        exact ⟨g1, g2, g3, by omega, by omega⟩
      · by_cases c3 : fl < fr
        · rw [if_pos (Or.inr ⟨c2, c3⟩)] at hs
          obtain ⟨g1, g2, g3⟩ := goR (by omega) hs
          exact ⟨g1, g2, g3, by omega, by omega⟩
        · rw [if_neg (by omega)] at hs
          obtain ⟨g1, g2, g3⟩ := goL (by omega) hs
          exact ⟨g1, g2, g3, by omega, by omega⟩

theorem slide_same {mt : Nat → Nat → Bool} {s k : Int} (s0 : 0 ≤ s) (sk : k ≤ s) : ∀ (t : Nat), (∀ i : Nat, i < t → mt (s + i).toNat (s + i - k).toNat = true) → Ei mt (s + t) (s + t - k) = Ei mt s (s - k)
  | 0, _ => by simp
  | t + 1, h => by
    have h1 := slide_same s0 sk t fun i hi => h i (by omega)
    have h2 := Ei_hit (mt := mt) (x := s + t) (y := s + t - k) (by omega) (by omega) (h t (by omega))
    have e : s + ((t + 1 : Nat) : Int) = s + t + 1 := by omega
    have e' : s + t - k + 1 = s + t + 1 - k := by omega
    rw [e'] at h2
    rw [e]
    omega

theorem end_of {mt : Nat → Nat → Bool} {d k fl fr s : Int} (hl : -d < k → FP mt (d - 1) (k - 1) fl) (hr : k < d → FP mt (d - 1) (k + 1) fr) (k0 : -d ≤ k) (k1 : k ≤ d)
    (hs : 0 ≤ s ∧ k ≤ s ∧ Ei mt s (s - k) ≤ d ∧ (-d < k → fl + 1 ≤ s) ∧ (k < d → fr ≤ s)) (t : Nat)
    (hin : ∀ i : Nat, i < t → mt (s + i).toNat (s + i - k).toNat = true) (hout : ¬ mt (s + t).toNat (s + t - k).toNat = true) :
    FP mt d k (s + t) := by
  obtain ⟨s0, sk, h1, h2, h3⟩ := hs
  have hsame := slide_same s0 sk t hin
  refine ⟨by omega, by omega, by omega, ?_⟩
  have hm := Ei_miss (mt := mt) (x := s + t) (y := s + t - k) (by omega) (by omega) hout
  have e' : s + t - k + 1 = s + t + 1 - k := by omega
  rw [e'] at hm
  have up : d ≤ Ei mt (s + t) (s + t + 1 - k) := by
    have g := Ei_ge (mt := mt) (x := s + t) (y := s + t + 1 - k) (by omega) (by omega)
    by_cases c : -d < k
    · by_cases c' : d ≤ Ei mt (s + t) (s + t + 1 - k)
      · exact c'
      · exfalso
        have e : s + t + 1 - k = s + t - (k - 1) := by omega
        rw [e] at c'
        have := (hl c).max (z := s + t) (by omega)
        have := h2 c
        omega
    · omega
  have left : d ≤ Ei mt (s + t + 1) (s + t - k) := by
    have g := Ei_ge (mt := mt) (x := s + t + 1) (y := s + t - k) (by omega) (by omega)
    by_cases c : k < d
    · by_cases c' : d ≤ Ei mt (s + t + 1) (s + t - k)
      · exact c'
      · exfalso
        have e : s + t - k = s + t + 1 - (k + 1) := by omega
        rw [e] at c'
        have := (hr c).max (z := s + t + 1) (by omega)
        have := h3 c
        omega
    · omega
  omega

end Go.Proofs.Qxb6617690a.Plain
