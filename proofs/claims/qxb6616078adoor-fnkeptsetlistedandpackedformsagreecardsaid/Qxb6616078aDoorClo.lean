/- The closure 'func(i int) { out = append(out, i) }'. -/
import Derived.Test.Qxb6616078aDoorSmall
namespace Go.Proofs.Qxb6616078aDoor
open Go.RowKit

/-- The captured variable in block c holds a slice of the call's own with these elements. -/
structure Out (c : Nat) (w : World) (F : List Nat) (v : Value) : Prop where
  cell : w.cell? ⟨c, 0, none⟩ = some v
  free : w.frozen? ⟨c, 0, none⟩ = false
  own : w.ownsRow (c + 1) 3 1 v F.length (nats F)
  lt : c < w.heap.size

theorem owns_slice {w : World} {base : Nat} {v : Value} {n : Nat} {xs : List Value} (h : w.ownsRow base 3 1 v n xs) : ∃ oa cap, v = .slice oa n cap := by
  rcases h.2 with ⟨rfl, rfl⟩ | ⟨g, cap, cur, rfl, _⟩
  · exact ⟨none, 0, rfl⟩
  · exact ⟨_, cap, rfl⟩

theorem out_step {c x : Nat} {F : List Nat} {w w1 : World} {v v' : Value} {o : Obj} (hO : Out c w F v)
    (hown' : w1.ownsRow (c + 1) 3 1 v' (F.length + 1) (nats F ++ [.int .i64 (x : Int)])) (hgrow : (w.alloc o).grownBy w1 v.ownBlock) :
    (w1.cell? ⟨c, 0, none⟩ = some v ∧ w1.frozen? ⟨c, 0, none⟩ = false) ∧ Out c (w1.setCell ⟨c, 0, none⟩ v') (F ++ [x]) v' ∧ Below c w (w1.setCell ⟨c, 0, none⟩ v') := by
  have hlt := hO.lt
  have hne : some c ≠ v.ownBlock := fun h => by have := hO.own.lt c h.symm; omega
  have hc1 : w1.cell? ⟨c, 0, none⟩ = some v := hgrow.cell ((World.cell?_alloc_past _ _ _ (by omega)).trans hO.cell) hne
  have hf1 : w1.frozen? ⟨c, 0, none⟩ = false := by
    rw [World.frozen?_of_block (w := w.alloc o) (hgrow.block c (by simp; omega) hne)]
    exact (World.frozen?_alloc_past _ _ _ (by omega)).trans hO.free
  have hb1 : Below c w w1 := ((Below.refl c w).alloc (by omega) o).grown hgrow (by simp; omega) (fun j hj => by have := (hO.own.lt j hj).1; omega)
  refine ⟨⟨hc1, hf1⟩, ⟨?_, (World.frozen?_setCell _ _ _ _).trans hf1, ?_, ?_⟩, hb1.setCell (by show c ≤ c; omega) _⟩
  · rw [World.cell?_setCell_same _ _ _ hc1]
  · have e : (F ++ [x]).length = F.length + 1 := by simp
    have e2 : nats (F ++ [x]) = nats F ++ [.int .i64 (x : Int)] := by simp [nats]
    rw [e, e2]
    exact ownsRow_setCell_below hown' (by show c < c + 1; omega) _
  · have := hb1.size
    simp [World.setCell]
    omega

set_option maxHeartbeats 1600000 in
theorem clo_any (c x : Nat) (F : List Nat) (v : Value) (w : World) (hO : Out c w F v) (hF : F.length < 65536) :
    Calls Tryd.prog 10 #[.int .i64 x, .pointer (some ⟨c, 0, none⟩)] w fun e w' => e = .returned (.tuple #[]) ∧ (∃ v', Out c w' (F ++ [x]) v') ∧ Below c w w' := by
  obtain ⟨i0, hi, hz0, hz1, hz2⟩ := info_parts info3
  obtain ⟨oa, cap, rfl⟩ := owns_slice hO.own
  have hcell := hO.cell
  have hlt := hO.lt
  have HO := hide hO
  have hown := hO.own
  clear hO
  go_enter Tryd.func10, Tryd.ntmps10
  go_wp2_with (at_builtin; refine wpList_append_own _ rfl _ _ 22 rfl (c + 1) 3 i0 (.int .i64 0) 1 8 Tryd.underlying22 hi hz0 hz1 hz2 rfl (by decide) _ _ _ rfl (hown.alloc _) ⟨w.heap.size, 0, none⟩ 1 1 [.int .i64 x] rfl rfl ?c1 ?c2 ?c3 ?c4 ?c5 ?_)
  case c1 =>
    intro j u hj
    match j, hj with
    | 0, hj => simp at hj; subst hj; simp [Addr.add]
  case c2 => intro u hu; simp at hu; subst hu; rfl
  case c3 => unfold maxLen; omega
  case c4 => omega
  case c5 => simp; omega
  intro v' w1 hown' hgrow _
  obtain ⟨⟨q1, q2⟩, q3, q4⟩ := out_step (unhide HO) hown' hgrow
  obtain ⟨oa', cap', rfl⟩ := owns_slice hown'
  have Q := hide (And.intro q3 q4)
  clear hown' hgrow hown q3 q4 hcell
  go_wp2
  go_end0
  exact ⟨rfl, ⟨_, (unhide Q).1⟩, (unhide Q).2⟩

end Go.Proofs.Qxb6616078aDoor
