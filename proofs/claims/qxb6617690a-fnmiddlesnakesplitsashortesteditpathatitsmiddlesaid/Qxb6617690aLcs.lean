/- Plain mathematics, no Go in sight: the table of longest common subsequences over an arbitrary relation 'mt' of matches. -/
namespace Go.Proofs.Qxb6617690a.Plain

/-- One row of the table out of the row above it. -/
def row (mt : Nat → Bool) (prev : Nat → Nat) : Nat → Nat
  | 0 => 0
  | j + 1 => if mt j = true then prev j + 1 else max (prev (j + 1)) (row mt prev j)

def T (mt : Nat → Nat → Bool) : Nat → Nat → Nat
  | 0 => fun _ => 0
  | i + 1 => row (mt i) (T mt i)

theorem T_zero (mt : Nat → Nat → Bool) (j : Nat) : T mt 0 j = 0 := rfl
theorem T_col (mt : Nat → Nat → Bool) (i : Nat) : T mt i 0 = 0 := by cases i <;> rfl
theorem T_succ (mt : Nat → Nat → Bool) (i j : Nat) : T mt (i + 1) (j + 1) = if mt i j = true then T mt i j + 1 else max (T mt i (j + 1)) (T mt (i + 1) j) := rfl
theorem T_hit {mt : Nat → Nat → Bool} {i j : Nat} (h : mt i j = true) : T mt (i + 1) (j + 1) = T mt i j + 1 := by rw [T_succ, if_pos h]
theorem T_miss {mt : Nat → Nat → Bool} {i j : Nat} (h : ¬ mt i j = true) : T mt (i + 1) (j + 1) = max (T mt i (j + 1)) (T mt (i + 1) j) := by rw [T_succ, if_neg h]

theorem T_steps (mt : Nat → Nat → Bool) : ∀ i, (∀ j, T mt i j ≤ T mt i (j + 1) ∧ T mt i (j + 1) ≤ T mt i j + 1) ∧ (∀ j, T mt i j ≤ T mt (i + 1) j ∧ T mt (i + 1) j ≤ T mt i j + 1) := by
  intro i
  have down : ∀ i, (∀ j, T mt i j ≤ T mt i (j + 1) ∧ T mt i (j + 1) ≤ T mt i j + 1) → (∀ j, T mt i j ≤ T mt (i + 1) j ∧ T mt (i + 1) j ≤ T mt i j + 1) := by
    intro i h j
    induction j with
    | zero => rw [T_col, T_col]; omega
    | succ j ih =>
      have hj := h j
      by_cases hm : mt i j = true
      · rw [T_hit hm]; omega
      · rw [T_miss hm]; omega
  induction i with
  | zero => exact ⟨fun j => by rw [T_zero, T_zero]; omega, down 0 fun j => by rw [T_zero, T_zero]; omega⟩
  | succ i ih =>
    have q : ∀ j, T mt (i + 1) j ≤ T mt (i + 1) (j + 1) ∧ T mt (i + 1) (j + 1) ≤ T mt (i + 1) j + 1 := by
      intro j
      have h1 := ih.1 j
      have h2 := ih.2 j
      by_cases hm : mt i j = true
      · rw [T_hit hm]; omega
      · rw [T_miss hm]; omega
    exact ⟨q, down (i + 1) q⟩

theorem T_right (mt : Nat → Nat → Bool) (i j : Nat) : T mt i j ≤ T mt i (j + 1) ∧ T mt i (j + 1) ≤ T mt i j + 1 := (T_steps mt i).1 j
theorem T_down (mt : Nat → Nat → Bool) (i j : Nat) : T mt i j ≤ T mt (i + 1) j ∧ T mt (i + 1) j ≤ T mt i j + 1 := (T_steps mt i).2 j

theorem T_diag (mt : Nat → Nat → Bool) (i j : Nat) : T mt (i + 1) (j + 1) ≤ T mt i j + 1 := by
  by_cases hm : mt i j = true
  · rw [T_hit hm]; omega
  · rw [T_miss hm]
    have := T_right mt i j
    have := T_down mt i j
    omega

theorem T_le_left (mt : Nat → Nat → Bool) (j : Nat) : ∀ i, T mt i j ≤ i
  | 0 => by rw [T_zero]; omega
  | i + 1 => by have := T_le_left mt j i; have := T_down mt i j; omega

theorem T_le_right (mt : Nat → Nat → Bool) (i : Nat) : ∀ j, T mt i j ≤ j
  | 0 => by rw [T_col]; omega
  | j + 1 => by have := T_le_right mt i j; have := T_right mt i j; omega

theorem T_mono_right (mt : Nat → Nat → Bool) (i : Nat) : ∀ t j, T mt i j ≤ T mt i (j + t)
  | 0, j => Nat.le_refl _
  | t + 1, j => by have := T_mono_right mt i t j; have := T_right mt i (j + t); rw [← Nat.add_assoc]; omega

theorem T_mono_down (mt : Nat → Nat → Bool) (j : Nat) : ∀ t i, T mt i j ≤ T mt (i + t) j
  | 0, i => Nat.le_refl _
  | t + 1, i => by have := T_mono_down mt j t i; have := T_down mt (i + t) j; rw [← Nat.add_assoc]; omega

/-- No match in row i: the row is the one above it. -/
theorem T_off_row {mt : Nat → Nat → Bool} {i : Nat} (h : ∀ j, mt i j = false) : ∀ j, T mt (i + 1) j = T mt i j
  | 0 => by rw [T_col, T_col]
  | j + 1 => by
    have hn : ¬ mt i j = true := by rw [h j]; simp
    rw [T_miss hn, T_off_row h j]
    have := T_right mt i j
    omega

theorem T_off_col {mt : Nat → Nat → Bool} {j : Nat} (h : ∀ i, mt i j = false) : ∀ i, T mt i (j + 1) = T mt i j
  | 0 => by rw [T_zero, T_zero]
  | i + 1 => by
    have hn : ¬ mt i j = true := by rw [h i]; simp
    rw [T_miss hn, T_off_col h i]
    have := T_down mt i j
    omega

theorem T_past_row {mt : Nat → Nat → Bool} {n : Nat} (h : ∀ i j, n ≤ i → mt i j = false) (j : Nat) : ∀ t, T mt (n + t) j = T mt n j
  | 0 => rfl
  | t + 1 => by rw [← Nat.add_assoc, T_off_row (fun j => h _ j (by omega)), T_past_row h j t]

theorem T_past_col {mt : Nat → Nat → Bool} {m : Nat} (h : ∀ i j, m ≤ j → mt i j = false) (i : Nat) : ∀ t, T mt i (m + t) = T mt i m
  | 0 => rfl
  | t + 1 => by rw [← Nat.add_assoc, T_off_col (fun i => h i _ (by omega)), T_past_col h i t]

theorem T_congr {mt mt' : Nat → Nat → Bool} : ∀ n m, (∀ i j, i < n → j < m → mt i j = mt' i j) → T mt n m = T mt' n m := by
  intro n
  induction n with
  | zero => intro m _; rw [T_zero, T_zero]
  | succ n ihn =>
    intro m
    induction m with
    | zero => intro _; rw [T_col, T_col]
    | succ m ihm =>
      intro h
      have e1 := ihn m fun i j hi hj => h i j (by omega) (by omega)
      have e2 := ihn (m + 1) fun i j hi hj => h i j (by omega) (by omega)
      have e3 := ihm fun i j hi hj => h i j (by omega) (by omega)
      rw [T_succ, T_succ, e1, e2, e3, h n m (by omega) (by omega)]

/-! ### Two rectangles behind one another -/

def shift (x y : Nat) (mt : Nat → Nat → Bool) : Nat → Nat → Bool := fun i j => mt (x + i) (y + j)

theorem T_join (mt : Nat → Nat → Bool) (x y : Nat) : ∀ i j, T mt x y + T (shift x y mt) i j ≤ T mt (x + i) (y + j) := by
  intro i
  induction i with
  | zero => intro j; rw [T_zero]; exact T_mono_right mt x j y
  | succ i ih =>
    intro j
    induction j with
    | zero => rw [T_col]; exact T_mono_down mt y (i + 1) x
    | succ j ihj =>
      have h1 := ih j
      have h2 := ih (j + 1)
      rw [← Nat.add_assoc] at h2 ⊢
      rw [← Nat.add_assoc] at ihj ⊢
      by_cases hm : mt (x + i) (y + j) = true
      · rw [T_hit hm, T_hit (mt := shift x y mt) hm]; omega
      · rw [T_miss hm, T_miss (mt := shift x y mt) hm]; omega

/-! ### The rectangle turned round -/

def turn (n m : Nat) (mt : Nat → Nat → Bool) : Nat → Nat → Bool := fun i j => decide (i < n) && (decide (j < m) && mt (n - 1 - i) (m - 1 - j))

theorem turn_at {n m : Nat} {mt : Nat → Nat → Bool} {x y : Nat} (hx : x < n) (hy : y < m) : turn n m mt (n - (x + 1)) (m - (y + 1)) = mt x y := by
  have e1 : n - 1 - (n - (x + 1)) = x := by omega
  have e2 : m - 1 - (m - (y + 1)) = y := by omega
  have e3 : n - (x + 1) < n := by omega
  have e4 : m - (y + 1) < m := by omega
  simp [turn, e1, e2, e3, e4]

theorem T_cut (n m : Nat) (mt : Nat → Nat → Bool) : ∀ x y, x ≤ n → y ≤ m → T mt x y + T (turn n m mt) (n - x) (m - y) ≤ T (turn n m mt) n m := by
  have big : ∀ x y, x ≤ n → y ≤ m → T (turn n m mt) (n - x) (m - y) ≤ T (turn n m mt) n m := by
    intro x y hx hy
    have h1 := T_mono_down (turn n m mt) (m - y) x (n - x)
    have h2 := T_mono_right (turn n m mt) n y (m - y)
    rw [Nat.sub_add_cancel hx] at h1
    rw [Nat.sub_add_cancel hy] at h2
    omega
  intro x
  induction x with
  | zero => intro y hx hy; rw [T_zero]; have := big 0 y hx hy; omega
  | succ x ihx =>
    intro y
    induction y with
    | zero => intro hx hy; rw [T_col]; have := big (x + 1) 0 hx hy; omega
    | succ y ihy =>
      intro hx hy
      have a1 := ihx y (by omega) (by omega)
      have a2 := ihx (y + 1) (by omega) hy
      have a3 := ihy hx (by omega)
      have e1 : n - x = n - (x + 1) + 1 := by omega
      have e2 : m - y = m - (y + 1) + 1 := by omega
      by_cases hm : mt x y = true
      · rw [T_hit hm]
        rw [e1, e2, T_hit (by rw [turn_at (by omega) (by omega)]; exact hm)] at a1
        omega
      · rw [T_miss hm]
        have b1 := T_down (turn n m mt) (n - (x + 1)) (m - (y + 1))
        have b2 := T_right (turn n m mt) (n - (x + 1)) (m - (y + 1))
        rw [e1] at a2
        rw [e2] at a3
        omega

theorem turn_turn (n m : Nat) (mt : Nat → Nat → Bool) : T (turn n m (turn n m mt)) n m = T mt n m := by
  refine T_congr n m fun i j hi hj => ?_
  have e1 : n - 1 - (n - 1 - i) = i := by omega
  have e2 : m - 1 - (m - 1 - j) = j := by omega
  have e3 : n - 1 - i < n := by omega
  have e4 : m - 1 - j < m := by omega
  simp [turn, e1, e2, e3, e4, hi, hj]

theorem T_turn (n m : Nat) (mt : Nat → Nat → Bool) : T (turn n m mt) n m = T mt n m := by
  have h1 := T_cut n m mt n m (Nat.le_refl _) (Nat.le_refl _)
  have h2 := T_cut n m (turn n m mt) n m (Nat.le_refl _) (Nat.le_refl _)
  rw [Nat.sub_self, Nat.sub_self, T_zero] at h1 h2
  rw [turn_turn] at h2
  omega

/-- The rest of the rectangle behind (x, y), read forward, is the turned rectangle's corner. -/
theorem T_rest (n m : Nat) (mt : Nat → Nat → Bool) (x y : Nat) (hx : x ≤ n) (hy : y ≤ m) : T (shift x y mt) (n - x) (m - y) = T (turn n m mt) (n - x) (m - y) := by
  rw [← T_turn (n - x) (m - y) (shift x y mt)]
  refine T_congr _ _ fun i j hi hj => ?_
  have e1 : x + (n - x - 1 - i) = n - 1 - i := by omega
  have e2 : y + (m - y - 1 - j) = m - 1 - j := by omega
  have e3 : i < n := by omega
  have e4 : j < m := by omega
  simp [turn, shift, e1, e2, hi, hj, e3, e4]

/-- Two parts that meet in (x, y) are no better than the whole. -/
theorem T_meet (n m : Nat) (mt : Nat → Nat → Bool) (x y : Nat) (hx : x ≤ n) (hy : y ≤ m) : T mt x y + T (turn n m mt) (n - x) (m - y) ≤ T mt n m := by
  rw [← T_turn n m mt]
  exact T_cut n m mt x y hx hy

/-- ON A BEST WAY every number of edits is met: from (x, y) on a best way, each smaller number of edits has its point. -/
theorem T_way (n m : Nat) (mt : Nat → Nat → Bool) : ∀ s x y, x + y = s → x ≤ n → y ≤ m → T mt x y + T (turn n m mt) (n - x) (m - y) = T mt n m →
    ∀ e, e + 2 * T mt x y ≤ x + y → ∃ x' y', x' ≤ n ∧ y' ≤ m ∧ T mt x' y' + T (turn n m mt) (n - x') (m - y') = T mt n m ∧ e + 2 * T mt x' y' = x' + y' := by
  intro s
  induction s using Nat.strongRecOn with
  | ind s ih =>
    intro x y hs hx hy ho e he
    by_cases hE : e + 2 * T mt x y = x + y
    · exact ⟨x, y, hx, hy, ho, hE⟩
    · have meet := fun a b ha hb => T_meet n m mt a b ha hb
      cases x with
      | zero =>
        cases y with
        | zero => rw [T_zero] at he hE; omega
        | succ y =>
          have h1 := meet 0 y hx (by omega)
          have e2 : m - y = m - (y + 1) + 1 := by omega
          have b2 := T_right (turn n m mt) (n - 0) (m - (y + 1))
          rw [e2] at h1
          rw [T_zero] at ho h1 he hE
          refine ih (0 + y) (by omega) 0 y rfl hx (by omega) (by rw [T_zero, e2]; omega) e (by rw [T_zero]; omega)
      | succ x =>
        have e1 : n - x = n - (x + 1) + 1 := by omega
        cases y with
        | zero =>
          have h1 := meet x 0 (by omega) hy
          have b1 := T_down (turn n m mt) (n - (x + 1)) (m - 0)
          rw [e1] at h1
          rw [T_col] at ho h1 he hE
          refine ih (x + 0) (by omega) x 0 rfl (by omega) hy (by rw [T_col, e1]; omega) e (by rw [T_col]; omega)
        | succ y =>
          have e2 : m - y = m - (y + 1) + 1 := by omega
          by_cases hm : mt x y = true
          · have h1 := meet x y (by omega) (by omega)
            rw [e1, e2, T_hit (by rw [turn_at (by omega) (by omega)]; exact hm)] at h1
            rw [T_hit hm] at ho he hE
            refine ih (x + y) (by omega) x y rfl (by omega) (by omega) ?_ e (by omega)
            rw [e1, e2, T_hit (by rw [turn_at (by omega) (by omega)]; exact hm)]
            omega
          · have t := T_miss hm
            have h1 := meet x (y + 1) (by omega) hy
            have h2 := meet (x + 1) y hx (by omega)
            have b1 := T_down (turn n m mt) (n - (x + 1)) (m - (y + 1))
            have b2 := T_right (turn n m mt) (n - (x + 1)) (m - (y + 1))
            rw [e1] at h1
            rw [e2] at h2
            by_cases hc : T mt (x + 1) (y + 1) = T mt x (y + 1)
            · refine ih (x + (y + 1)) (by omega) x (y + 1) rfl (by omega) hy ?_ e ?_
              · rw [e1]; omega
              · omega
            · refine ih (x + 1 + y) (by omega) (x + 1) y rfl hx (by omega) ?_ e ?_
              · rw [e2]; omega
              · omega

end Go.Proofs.Qxb6617690a.Plain
