/- Plain mathematics, no Go in sight: the search as a plain function over lists, round by round. -/
import Derived.Test.Qxb6617690aSnake
namespace Go.Proofs.Qxb6617690a.Plain

/-- The entry of a table on diagonal k. -/
def tb (F : List Int) (off k : Int) : Int := F.getD (off + k).toNat 0

/-- Where the furthest path on diagonal k begins its run. -/
def fur (F : List Int) (off k d : Int) : Int := if k = -d ∨ (k ≠ d ∧ tb F off (k - 1) < tb F off (k + 1)) then tb F off (k + 1) else tb F off (k - 1) + 1

/-- How many first elements two lists share. -/
def lcp : List Int → List Int → Nat
  | a :: as, b :: bs => if a = b then lcp as bs + 1 else 0
  | _, _ => 0

def mtL (A B : List Int) (i j : Nat) : Bool := decide (i < A.length) && (decide (j < B.length) && (A.getD i 0 == B.getD j 0))

/-- Where the run that begins at s on diagonal k ends. -/
def runEnd (A B : List Int) (s k : Int) : Int := s + (lcp (A.drop s.toNat) (B.drop (s - k).toNat) : Int)

def inner (A B : List Int) (off d : Int) (chk : Int → Int → Bool) : Nat → Int → List Int → List Int × Option (Int × Int)
  | 0, _, F => (F, none)
  | c + 1, k, F =>
    if chk k (runEnd A B (fur F off k d) k) = true then (F.set (off + k).toNat (runEnd A B (fur F off k d) k), some (k, fur F off k d))
    else inner A B off d chk c (k + 2) (F.set (off + k).toNat (runEnd A B (fur F off k d) k))

def chkF (odd : Bool) (delta n off d : Int) (G : List Int) (k x : Int) : Bool := odd && (decide (delta - (d - 1) ≤ k) && (decide (k ≤ delta + (d - 1)) && decide (n ≤ x + tb G off (delta - k))))
def chkB (odd : Bool) (delta n off d : Int) (F : List Int) (k x : Int) : Bool := !odd && (decide (delta - d ≤ k) && (decide (k ≤ delta + d) && decide (n ≤ x + tb F off (delta - k))))

/-- The search from round d on, c rounds at most: which end found it (true: the start), on which diagonal, where the run begins (measured from that end), and the two tables as they stand then. -/
def outer (A B : List Int) (odd : Bool) (delta n off : Int) : Nat → Int → List Int → List Int → Option (Bool × Int × Int × List Int × List Int)
  | 0, _, _, _ => none
  | c + 1, d, F, G =>
    match inner A B off d (chkF odd delta n off d G) (d.toNat + 1) (-d) F with
    | (F', some (k, s)) => some (true, k, s, F', G)
    | (F', none) =>
      match inner A.reverse B.reverse off d (chkB odd delta n off d F') (d.toNat + 1) (-d) G with
      | (G', some (k, s)) => some (false, k, s, F', G')
      | (G', none) => outer A B odd delta n off c (d + 1) F' G'

/-! ### Facts on the parts -/

theorem lcp_in : ∀ (A B : List Int) (t : Nat), t < lcp A B → t < A.length ∧ t < B.length ∧ A.getD t 0 = B.getD t 0
  | [], _, t, h => by simp [lcp] at h
  | _ :: _, [], t, h => by simp [lcp] at h
  | a :: as, b :: bs, t, h => by
    unfold lcp at h
    by_cases e : a = b
    · rw [if_pos e] at h
      cases t with
      | zero => exact ⟨by simp, by simp, by simp [e]⟩
      | succ t =>
        have := lcp_in as bs t (by omega)
        simp only [List.length_cons, List.getD_cons_succ]
        exact ⟨by omega, by omega, this.2.2⟩
    · rw [if_neg e] at h
      omega

theorem lcp_out : ∀ (A B : List Int), lcp A B < A.length → lcp A B < B.length → A.getD (lcp A B) 0 ≠ B.getD (lcp A B) 0
  | [], _, h, _ => by simp at h
  | _ :: _, [], _, h => by simp at h
  | a :: as, b :: bs, h1, h2 => by
    unfold lcp at h1 h2 ⊢
    by_cases e : a = b
    · rw [if_pos e] at h1 h2 ⊢
      simp only [List.length_cons] at h1 h2
      simp only [List.getD_cons_succ]
      exact lcp_out as bs (by omega) (by omega)
    · rw [if_neg e]
      simpa using e

theorem getD_drop (A : List Int) (x t : Nat) : (A.drop x).getD t 0 = A.getD (x + t) 0 := by
  rw [List.getD_eq_getElem?_getD, List.getElem?_drop, ← List.getD_eq_getElem?_getD]

theorem run_in {A B : List Int} {s k : Int} (s0 : 0 ≤ s) (sk : k ≤ s) (i : Nat) (h : i < lcp (A.drop s.toNat) (B.drop (s - k).toNat)) : mtL A B (s + i).toNat (s + i - k).toNat = true := by
  obtain ⟨h1, h2, h3⟩ := lcp_in _ _ i h
  rw [getD_drop, getD_drop] at h3
  rw [List.length_drop] at h1 h2
  have e1 : (s + i).toNat = s.toNat + i := by omega
  have e2 : (s + i - k).toNat = (s - k).toNat + i := by omega
  have a1 : s.toNat + i < A.length := by omega
  have a2 : (s - k).toNat + i < B.length := by omega
  unfold mtL
  rw [e1, e2, h3]
  simp [a1, a2]

theorem run_out {A B : List Int} {s k : Int} (s0 : 0 ≤ s) (sk : k ≤ s) : ¬ mtL A B (s + (lcp (A.drop s.toNat) (B.drop (s - k).toNat) : Nat)).toNat (s + (lcp (A.drop s.toNat) (B.drop (s - k).toNat) : Nat) - k).toNat = true := by
  have e1 : (s + (lcp (A.drop s.toNat) (B.drop (s - k).toNat) : Nat)).toNat = s.toNat + lcp (A.drop s.toNat) (B.drop (s - k).toNat) := by omega
  have e2 : (s + (lcp (A.drop s.toNat) (B.drop (s - k).toNat) : Nat) - k).toNat = (s - k).toNat + lcp (A.drop s.toNat) (B.drop (s - k).toNat) := by omega
  rw [e1, e2]
  intro h
  unfold mtL at h
  simp only [Bool.and_eq_true, decide_eq_true_eq, beq_iff_eq] at h
  obtain ⟨h1, h2, h3⟩ := h
  have := lcp_out (A.drop s.toNat) (B.drop (s - k).toNat) (by rw [List.length_drop]; omega) (by rw [List.length_drop]; omega)
  rw [getD_drop, getD_drop] at this
  exact this h3

theorem runEnd_ge (A B : List Int) (s k : Int) : s ≤ runEnd A B s k := by unfold runEnd; omega

theorem tb_set_same {F : List Int} {off k : Int} (x : Int) (h : (off + k).toNat < F.length) : tb (F.set (off + k).toNat x) off k = x := by
  unfold tb
  rw [List.getD_eq_getElem?_getD, List.getElem?_set_self h]
  rfl

theorem tb_set_other {F : List Int} {off k k' : Int} (x : Int) (h : (off + k).toNat ≠ (off + k').toNat) : tb (F.set (off + k).toNat x) off k' = tb F off k' := by
  unfold tb
  rw [List.getD_eq_getElem?_getD, List.getElem?_set_ne h, ← List.getD_eq_getElem?_getD]

/-- What a table holds when round d begins. -/
structure Prev (mt : Nat → Nat → Bool) (off d : Int) (F : List Int) : Prop where
  zero : d = 0 → tb F off 1 = 0
  past : ∀ k, -(d - 1) ≤ k → k ≤ d - 1 → (k + d) % 2 = 1 → FP mt (d - 1) k (tb F off k)

/-- What the run on diagonal k in round d is. -/
structure Hit (mt : Nat → Nat → Bool) (d k s x : Int) : Prop where
  k0 : -d ≤ k
  k1 : k ≤ d
  par : (k + d) % 2 = 0
  s0 : 0 ≤ s
  sk : k ≤ s
  sx : s ≤ x
  here : Ei mt s (s - k) ≤ d
  far : FP mt d k x
  same : Ei mt x (x - k) = Ei mt s (s - k)
  run : ∀ i : Nat, (i : Int) < x - s → mt (s + i).toNat (s + i - k).toNat = true

theorem hit_of {A B : List Int} {off d k : Int} {F : List Int} (P : Prev (mtL A B) off d F) (d0 : 0 ≤ d) (k0 : -d ≤ k) (k1 : k ≤ d) (par : (k + d) % 2 = 0) :
    Hit (mtL A B) d k (fur F off k d) (runEnd A B (fur F off k d) k) := by
  have hl : -d < k → FP (mtL A B) (d - 1) (k - 1) (tb F off (k - 1)) := fun h => P.past (k - 1) (by omega) (by omega) (by omega)
  have hr : k < d → FP (mtL A B) (d - 1) (k + 1) (tb F off (k + 1)) := fun h => P.past (k + 1) (by omega) (by omega) (by omega)
  have hz : d = 0 → tb F off (k + 1) = 0 := fun h => by
    have : k + 1 = 1 := by omega
    rw [this]
    exact P.zero h
  have hs := start_of (s := fur F off k d) d0 k0 k1 hz hl hr rfl
  have hin := fun i h => run_in (A := A) (B := B) hs.1 hs.2.1 i h
  have hout := run_out (A := A) (B := B) hs.1 hs.2.1
  refine ⟨k0, k1, par, hs.1, hs.2.1, runEnd_ge A B _ k, hs.2.2.1, end_of hl hr k0 k1 hs _ hin hout, slide_same hs.1 hs.2.1 _ hin, ?_⟩
  intro i hi
  refine hin i ?_
  unfold runEnd at hi
  omega

theorem inner_length (A B : List Int) (off d : Int) (chk : Int → Int → Bool) : ∀ c k F, (inner A B off d chk c k F).1.length = F.length
  | 0, _, _ => rfl
  | c + 1, k, F => by
    unfold inner
    by_cases h : chk k (runEnd A B (fur F off k d) k) = true
    · rw [if_pos h]; simp
    · rw [if_neg h, inner_length]; simp

theorem inner_spec {A B : List Int} {off d : Int} {chk : Int → Int → Bool} (d0 : 0 ≤ d) : ∀ (c : Nat) (k : Int) (F : List Int), d ≤ off → off + d < F.length → k + 2 * c = d + 2 → -d ≤ k →
    Prev (mtL A B) off d F → (∀ k', -d ≤ k' → k' < k → (k' + d) % 2 = 0 → FP (mtL A B) d k' (tb F off k') ∧ chk k' (tb F off k') = false) →
    ((inner A B off d chk c k F).2 = none → ∀ k', -d ≤ k' → k' ≤ d → (k' + d) % 2 = 0 → FP (mtL A B) d k' (tb (inner A B off d chk c k F).1 off k') ∧ chk k' (tb (inner A B off d chk c k F).1 off k') = false) ∧
    (∀ k1 s, (inner A B off d chk c k F).2 = some (k1, s) → Hit (mtL A B) d k1 s (runEnd A B s k1) ∧ tb (inner A B off d chk c k F).1 off k1 = runEnd A B s k1 ∧ chk k1 (runEnd A B s k1) = true)
  | 0, k, F, ho, hl, hk, h0, P, D => by
    refine ⟨fun _ k' a b par => D k' a (by omega) par, fun k1 s h => ?_⟩
    cases h
  | c + 1, k, F, ho, hl, hk, h0, P, D => by
    have hit := hit_of P d0 h0 (by omega) (by omega)
    unfold inner
    by_cases h : chk k (runEnd A B (fur F off k d) k) = true
    · rw [if_pos h]
      refine ⟨fun e => (by cases e), fun k1 s e => ?_⟩
      obtain ⟨rfl, rfl⟩ : k = k1 ∧ fur F off k d = s := by
        have := Option.some.inj e
        exact ⟨congrArg Prod.fst this, congrArg Prod.snd this⟩
      exact ⟨hit, tb_set_same _ (by omega), h⟩
    · rw [if_neg h]
      refine inner_spec d0 c (k + 2) (F.set (off + k).toNat (runEnd A B (fur F off k d) k)) ho (by simpa using hl) (by omega) (by omega) ⟨?_, ?_⟩ ?_
      · intro e
        rw [tb_set_other _ (by omega)]
        exact P.zero e
      · intro k' a b par
        rw [tb_set_other _ (by omega)]
        exact P.past k' a b par
      · intro k' a b par
        by_cases e : k' = k
        · subst e
          rw [tb_set_same _ (by omega)]
          exact ⟨hit.far, by simpa using h⟩
        · rw [tb_set_other _ (by omega)]
          exact D k' a (by omega) par

end Go.Proofs.Qxb6617690a.Plain
