/- newCell: the cell's row, new. -/
import Derived.Test.Qxb6614855aDoorP8
namespace Go.Proofs.Qxb6614855aDoor
open Go.RowKit

/-- A cell before its corners. -/
def cellF (own : Nat → Int) (pl : Value) (lk : Bool) : Nat → Value := fun j =>
  if j < 4 then .int .u32 (own j) else if j = 4 then pl else if j = 5 then .slice none 0 0 else if j < 22 then .int .i32 0 else if j < 102 then .float .f64 0 else if j < 198 then .int .i16 0 else if j = 198 then .float .f64 0
  else if j = 199 then .slice none 0 0 else if j = 200 then .bool lk else if j < 203 then .bool false else if j = 203 then .slice none 0 0 else .map none

def zeroF : Nat → Value := cellF (fun _ => 0) (.slice none 0 0) false
def ownA (x : Nat → Int) : Array Value := #[.int .u32 (x 0), .int .u32 (x 1), .int .u32 (x 2), .int .u32 (x 3)]

theorem info36 : (Tryd.prog.info? 36).map (fun i => (i.zero, i.size)) = some (some (.agg (lay zeroF).toArray), 205) := by kernel_rfl
theorem size36 : (Tryd.prog.info? 36).map (·.size) = some 205 := by kernel_rfl
theorem size23 : (Tryd.prog.info? 23).map (·.size) = some 4 := by kernel_rfl
theorem alloc36 (w : World) : (Instr.alloc 36 true (.tuple #[])).run Tryd.prog w = .ok (.pointer (some ⟨w.heap.size, 0, none⟩)) (w.alloc (rowObj (lay zeroF) 36)) := by kernel_rfl
theorem build36 (x : Nat → Int) (bp : Nat) (w : World) : (Instr.build 36 #[(0, .agg (ownA x)), (1, .slice (some ⟨bp, 0, none⟩) 8 16), (9, .bool true)]).run Tryd.prog w = .ok (.agg (lay (cellF x (.slice (some ⟨bp, 0, none⟩) 8 16) true)).toArray) w := by
  kernel_rfl
theorem info61 : (Tryd.prog.info? 61).map (fun i => (i.zero, i.size, i.bytes)) = some (some (.agg #[.pointer none, .int .u8 0]), 2, 16) := by kernel_rfl

def planesL : List Value := [.pointer none, .int .u8 0, .pointer none, .int .u8 0, .pointer none, .int .u8 0, .pointer none, .int .u8 0, .pointer none, .int .u8 0, .pointer none, .int .u8 0, .pointer none, .int .u8 0, .pointer none, .int .u8 0,
  .pointer none, .int .u8 0, .pointer none, .int .u8 0, .pointer none, .int .u8 0, .pointer none, .int .u8 0, .pointer none, .int .u8 0, .pointer none, .int .u8 0, .pointer none, .int .u8 0, .pointer none, .int .u8 0]
theorem make24 (w : World) : (Instr.makeSlice 24 (.int .i64 8) (.int .i64 16)).run Tryd.prog w = .ok (.slice (some ⟨w.heap.size, 0, none⟩) 8 16) (w.alloc (rowObj planesL 61)) := by kernel_rfl


theorem lay_congr {f g : Nat → Value} (h : ∀ j, j < 205 → f j = g j) : lay f = lay g := by
  unfold lay
  exact List.map_congr_left fun j hj => h j (List.mem_range.1 hj)

/-- Cells from o on are laid. -/
theorem set_row {b3 : Nat} : ∀ (vs : List Value) (o : Nat) (w : World) (g : Nat → Value), w.heap[b3]? = some (rowObj (lay g) 36) → o + vs.length ≤ 205 →
    (∃ f, (w.setCells b3 o vs).heap[b3]? = some (rowObj (lay f) 36) ∧ (∀ j v, vs[j]? = some v → f (o + j) = v) ∧ (∀ j, j < o → f j = g j)) ∧ Keep b3 w (w.setCells b3 o vs)
  | [], _, _, g, h, _ => ⟨⟨g, h, fun _ _ hv => by simp at hv, fun _ _ => rfl⟩, Keep.refl _ _⟩
  | v :: vs, o, w, g, h, hl => by
    have hl' : o + (vs.length + 1) ≤ 205 := hl
    have h1 := row_set h o v
    rw [lay_set _ (by omega)] at h1
    obtain ⟨⟨f, q1, q2, q3⟩, k⟩ := set_row vs (o + 1) (w.setCell ⟨b3, o, none⟩ v) (upd g o v) h1 (by omega)
    refine ⟨⟨f, q1, fun j x hx => ?_, fun j hj => ?_⟩, ((Keep.refl b3 w).set o v).trans k⟩
    · cases j with
      | zero =>
        have e := q3 o (by omega)
        rw [Nat.add_zero, e]
        unfold upd
        rw [if_pos rfl]
        simpa using hx
      | succ j =>
        have := q2 j x (by simpa using hx)
        rw [← this]
        congr 1
        omega
    · rw [q3 j (by omega)]
      unfold upd
      rw [if_neg (by omega)]

theorem set_whole {b3 : Nat} {w : World} {f g : Nat → Value} (h : w.heap[b3]? = some (rowObj (lay g) 36)) : (w.setCells b3 0 (lay f)).heap[b3]? = some (rowObj (lay f) 36) ∧ Keep b3 w (w.setCells b3 0 (lay f)) := by
  obtain ⟨⟨f', q1, q2, _⟩, k⟩ := set_row (lay f) 0 w g h (by rw [lay_len]; omega)
  refine ⟨?_, k⟩
  rw [q1, lay_congr fun j hj => ?_]
  have := q2 j _ (lay_at f hj)
  rw [Nat.zero_add] at this
  exact this

/-- The operations, one by one. -/
theorem step_of {P : Program} {ops : Array Oper} {o : Oper} {a : Act} {w : World} {K : Act → World → Prop} {Q : Exit → Act → World → Prop} {E : Prop} (hg : o.guard = none) (h : Oper.wp P o a w K Q) :
    if Region.wanted o (yielded ops a.tmps) = true then Oper.wp P o a w K Q else E := by
  have hw : Region.wanted o (yielded ops a.tmps) = true := by simp [Region.wanted, hg]
  rw [if_pos hw]
  exact h

theorem store_whole {dst : Option Tmp} {x y : Operand} {tp : TypeId} {ps : String} {af} {gd} {a : Act} {w : World} {K : Act → World → Prop} {Q : Exit → Act → World → Prop} {b3 : Nat} {f g : Nat → Value} {Z : Array Value}
    (hx : a.eval x = .pointer (some ⟨b3, 0, none⟩)) (hy : a.eval y = .agg Z) (hZ : Z = (lay f).toArray) (hone : ∀ j, (f j).oneCell' = true) (hrow : w.heap[b3]? = some (rowObj (lay g) 36))
    (h : ∀ w', w'.heap[b3]? = some (rowObj (lay f) 36) ∧ Keep b3 w w' → K (a.put dst undef) w') : Oper.wp Tryd.prog (Oper.mk dst (.store 36 x y) tp ps af gd) a w K Q := by
  subst hZ
  refine wp_store_mid 36 x y rfl b3 0 _ hx hy (fun j hj => ?_) ?_ (all_oneCell_toArray fun v hv => ?_) (h _ (set_whole hrow))
  · have hj' : j < 205 := by simpa [lay_len] using hj
    rw [Nat.zero_add]
    exact ⟨by rw [row_cell hrow j _ (lay_at _ hj')]; rfl, row_free hrow _⟩
  · rw [size36, List.size_toArray, lay_len]
  · obtain ⟨j, _, rfl⟩ := List.mem_map.1 hv
    exact hone j

theorem load_whole {dst : Option Tmp} {x : Operand} {tp : TypeId} {ps : String} {af} {gd} {a : Act} {w : World} {K : Act → World → Prop} {Q : Exit → Act → World → Prop} {b3 : Nat} {f : Nat → Value} {Z : Array Value}
    (hx : a.eval x = .pointer (some ⟨b3, 0, none⟩)) (hZ : Z = (lay f).toArray) (hrow : w.heap[b3]? = some (rowObj (lay f) 36))
    (h : K (a.put dst (.agg Z)) w) : Oper.wp Tryd.prog (Oper.mk dst (.load 36 x) tp ps af gd) a w K Q := by
  subst hZ
  exact wp_load_mid 36 x rfl b3 0 hx (lay f) _ (fun j v hj => by rw [Nat.zero_add]; exact row_cell hrow j v hj) Tryd.underlying36 rfl (by rw [size36, lay_len]) h

theorem alloc_whole {dst : Option Tmp} {tp : TypeId} {ps : String} {af} {gd} {a : Act} {w : World} {K : Act → World → Prop} {Q : Exit → Act → World → Prop} {ZO : Obj} (hZO : ZO = rowObj (lay zeroF) 36)
    (h : K (a.put dst (.pointer (some ⟨w.heap.size, 0, none⟩))) (w.alloc ZO)) : Oper.wp Tryd.prog (Oper.mk dst (.alloc 36) tp ps af gd) a w K Q := by
  subst hZO
  unfold Oper.wp execOp
  simp only [Sem.run_bind, alloc36, Result.andThen_ok]
  exact h

theorem make_planes {dst : Option Tmp} {tp : TypeId} {ps : String} {af} {gd} {a : Act} {w : World} {K : Act → World → Prop} {Q : Exit → Act → World → Prop} {PO : Obj} (hPO : PO = rowObj planesL 61)
    (h : K (a.put dst (.slice (some ⟨w.heap.size, 0, none⟩) 8 16)) (w.alloc PO)) : Oper.wp Tryd.prog (Oper.mk dst (.makeSlice 24 (.const (.int .i64 8)) (.const (.int .i64 16))) tp ps af gd) a w K Q := by
  subst hPO
  unfold Oper.wp execOp
  simp only [Sem.run_bind, Act.eval, make24, Result.andThen_ok]
  exact h

theorem build_cell {dst : Option Tmp} {x y : Operand} {tp : TypeId} {ps : String} {af} {gd} {a : Act} {w : World} {K : Act → World → Prop} {Q : Exit → Act → World → Prop} {own : Nat → Int} {bp : Nat} {C O : Array Value} (hO : O = ownA own) (hC : C = (lay (cellF own (.slice (some ⟨bp, 0, none⟩) 8 16) true)).toArray)
    (hx : a.eval x = .agg O) (hy : a.eval y = .slice (some ⟨bp, 0, none⟩) 8 16)
    (h : K (a.put dst (.agg C)) w) : Oper.wp Tryd.prog (Oper.mk dst (.build 36 #[(0, x), (1, y), (9, .const (.bool true))]) tp ps af gd) a w K Q := by
  subst hC
  subst hO
  unfold Oper.wp execOp
  have hc : a.eval (.const (.bool true)) = .bool true := rfl
  simp only [List.map_toArray, List.map_cons, List.map_nil, hx, hy, hc, Sem.run_bind, build36, Result.andThen_ok]
  exact h

theorem cellF_one (x : Nat → Int) (bp : Nat) (lk : Bool) (j : Nat) : (cellF x (.slice (some ⟨bp, 0, none⟩) 8 16) lk j).oneCell' = true := by
  unfold cellF
  repeat' split
  all_goals rfl

end Go.Proofs.Qxb6614855aDoor
