/- Whole rows of zeros inside the cell; the reach. -/
import Derived.Test.Qxb6614855aDoorP4
namespace Go.Proofs.Qxb6614855aDoor
open Go.RowKit

theorem same_cells {b3 : Nat} {f : Nat → Value} : ∀ (vs : List Value) (o : Nat) (w : World), w.heap[b3]? = some (rowObj (lay f) 36) → o + vs.length ≤ 205 → (∀ j v, vs[j]? = some v → f (o + j) = v) →
    (w.setCells b3 o vs).heap[b3]? = some (rowObj (lay f) 36) ∧ Keep b3 w (w.setCells b3 o vs)
  | [], _, _, h, _, _ => ⟨h, Keep.refl _ _⟩
  | v :: vs, o, w, h, hl, hv => by
    have hl' : o + (vs.length + 1) ≤ 205 := hl
    have h1 := same_store h (by omega) (hv 0 v rfl)
    obtain ⟨a, b⟩ := same_cells vs (o + 1) (w.setCell ⟨b3, o, none⟩ v) h1 (by omega) (fun j x hx => by
      have := hv (j + 1) x hx
      rw [← this]
      congr 1
      omega)
    exact ⟨a, ((Keep.refl b3 w).set o v).trans b⟩

/-- A row of zeros goes where zeros lie. -/
theorem store_same {ops : Array Oper} {rest : List Oper} {dst : Option Tmp} {x y : Operand} {tp : TypeId} {ps : String} {af} {a : Act} {w : World} {Q : Exit → Act → World → Prop} {T : TypeId} {b3 o n : Nat} {f : Nat → Value} {z : Value} {Z : Array Value}
    (hx : a.eval x = .pointer (some ⟨b3, o, none⟩)) (hy : a.eval y = .agg Z) (hZ : Z = (List.replicate n z).toArray) (hone : z.oneCell' = true) (hsz : (Tryd.prog.info? T).map (·.size) = some n) (ho : o + n ≤ 205)
    (hrow : w.heap[b3]? = some (rowObj (lay f) 36)) (hz : ∀ j, o ≤ j → j < o + n → f j = z)
    (h : ∀ w', w'.heap[b3]? = some (rowObj (lay f) 36) ∧ Keep b3 w w' → wpList Tryd.prog ops Q rest (a.put dst undef) w') :
    wpList Tryd.prog ops Q (Oper.mk dst (.store T x y) tp ps af none :: rest) a w := by
  subst hZ
  refine wpList_store_mid rfl T x y rfl b3 o _ hx hy (fun j hj => ?_) (by simpa using hsz) (all_oneCell_toArray fun v hv => ?_) ?_
  · have hj' : j < n := by simpa using hj
    exact ⟨by rw [row_cell hrow (o + j) _ (lay_at _ (by omega))]; rfl, row_free hrow _⟩
  · rw [(List.mem_replicate.1 hv).2]; exact hone
  · refine h _ (same_cells _ _ _ hrow (by simpa using ho) (fun j v hj => ?_))
    simp only [List.getElem?_replicate] at hj
    split at hj
    · rename_i hlt
      rw [hz _ (by omega) (by omega)]
      simpa using hj
    · cases hj

theorem build_zero {ops : Array Oper} {rest : List Oper} {dst : Option Tmp} {tp : TypeId} {ps : String} {af} {a : Act} {w : World} {Q : Exit → Act → World → Prop} {T : TypeId} {v : Value}
    (hb : (Instr.build T #[]).run Tryd.prog w = .ok v w) (h : wpList Tryd.prog ops Q rest (a.put dst v) w) :
    wpList Tryd.prog ops Q (Oper.mk dst (.build T #[]) tp ps af none :: rest) a w := by
  refine wpList_plain rfl fun _ hK => ?_
  unfold Oper.wp execOp
  simp only [List.map_toArray, List.map_nil, Sem.run_bind, hb, Result.andThen_ok]
  exact hK _ _ h

theorem build32 (w : World) : (Instr.build 32 #[]).run Tryd.prog w = .ok (.agg (List.replicate 96 (.int .i16 0)).toArray) w := by kernel_rfl
theorem build26 (w : World) : (Instr.build 26 #[]).run Tryd.prog w = .ok (.agg (List.replicate 16 (.int .i32 0)).toArray) w := by kernel_rfl
theorem size32 : (Tryd.prog.info? 32).map (·.size) = some 96 := by kernel_rfl
theorem size26 : (Tryd.prog.info? 26).map (·.size) = some 16 := by kernel_rfl
theorem size30 : (Tryd.prog.info? 30).map (·.size) = some 16 := by kernel_rfl

/-- The radii, read whole. -/
theorem load_same {ops : Array Oper} {rest : List Oper} {dst : Option Tmp} {x : Operand} {tp : TypeId} {ps : String} {af} {a : Act} {w : World} {Q : Exit → Act → World → Prop} {T : TypeId} {d : TypeDesc} {b3 o n : Nat} {f : Nat → Value} {z : Value} {Z : Array Value}
    (hx : a.eval x = .pointer (some ⟨b3, o, none⟩)) (hZ : Z = (List.replicate n z).toArray) (hu : Tryd.prog.underlying T = some d) (hd : d.isRow = true) (hsz : (Tryd.prog.info? T).map (·.size) = some n) (ho : o + n ≤ 205)
    (hrow : w.heap[b3]? = some (rowObj (lay f) 36)) (hz : ∀ j, o ≤ j → j < o + n → f j = z)
    (h : wpList Tryd.prog ops Q rest (a.put dst (.agg Z)) w) :
    wpList Tryd.prog ops Q (Oper.mk dst (.load T x) tp ps af none :: rest) a w := by
  subst hZ
  refine wpList_load_mid rfl T x rfl b3 o hx _ d (fun j v hj => ?_) hu hd (by simpa using hsz) h
  simp only [List.getElem?_replicate] at hj
  split at hj
  · rename_i hlt
    rw [row_cell hrow (o + j) _ (lay_at _ (by omega)), hz _ (by omega) (by omega)]
    exact hj
  · cases hj

theorem index30 (W : World) : ∀ k : Nat, k < 16 → (Instr.index 30 (.agg (List.replicate 16 (Value.float .f64 (acc 4))).toArray) (.int .i64 k)).run Tryd.prog W = .ok (.float .f64 (acc 4)) W
  | 0, _ => by kernel_rfl
  | 1, _ => by kernel_rfl
  | 2, _ => by kernel_rfl
  | 3, _ => by kernel_rfl
  | 4, _ => by kernel_rfl
  | 5, _ => by kernel_rfl
  | 6, _ => by kernel_rfl
  | 7, _ => by kernel_rfl
  | 8, _ => by kernel_rfl
  | 9, _ => by kernel_rfl
  | 10, _ => by kernel_rfl
  | 11, _ => by kernel_rfl
  | 12, _ => by kernel_rfl
  | 13, _ => by kernel_rfl
  | 14, _ => by kernel_rfl
  | 15, _ => by kernel_rfl
  | _ + 16, h => by omega

/-- The reach behind k orthants. -/
def rea (k : Nat) : Nat := if k = 0 then 0 else acc 4
theorem max_rea (k : Nat) (W : World) : (Builtin.max_ #[27, 27] 27 #[.float .f64 (rea k), .float .f64 (acc 4)]).run Tryd.prog W = .ok (.float .f64 (rea (k + 1))) W := by
  have e : rea (k + 1) = acc 4 := by simp [rea]
  rw [e]
  by_cases h : k = 0
  · subst h; rfl
  · have e2 : rea k = acc 4 := by simp [rea, h]
    rw [e2]; rfl

end Go.Proofs.Qxb6614855aDoor
