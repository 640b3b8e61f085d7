import Derived.Test.Qxb6617690aRowObj
namespace Go.Proofs.Qxb6617690a
open Go.RowKit Plain

theorem addr_add (b o j : Nat) : (⟨b, o, none⟩ : Addr).add j = ⟨b, o + j, none⟩ := by
  unfold Addr.add
  split
  · rename_i h; subst h; rfl
  · rfl

/-- A slice argument, as both laws read it. -/
structure Arg (w : World) (oa : Option Addr) (n : Nat) (cs : List Value) : Prop where
  len : cs.length = n
  nil : oa = none → n = 0
  one : ∀ v ∈ cs, v.oneCell' = true
  cell : ∀ ad, oa = some ad → ∀ j v, cs[j]? = some v → w.cell? (ad.add j) = some v

/-- It reads so in a world that has kept all that was there. -/
theorem Arg.later {w w' : World} {oa : Option Addr} {n : Nat} {cs : List Value} (h : Arg w oa n cs) (hb : Below w.heap.size w w') : Arg w' oa n cs := by
  refine ⟨h.len, h.nil, h.one, fun ad e j v hv => ?_⟩
  have hc := h.cell ad e j v hv
  have hlt : (ad.add j).block < w.heap.size := by
    unfold World.cell? at hc
    by_cases hlt : (ad.add j).block < w.heap.size
    · exact hlt
    · rw [Array.getElem?_eq_none (by omega)] at hc
      cases hc
  exact (hb.cell hlt).trans hc

/-- A slice of ints that holds something: where it lies. -/
theorem Arg.plain {w : World} {oa : Option Addr} {n : Nat} {Z : List Int} (h : Arg w oa n (Z.map (.int .i64))) (hp : 0 < n) :
    ∃ b o, oa = some ⟨b, o, none⟩ ∧ b < w.heap.size ∧ Z.length = n ∧ ∀ i, i < n → w.cell? ⟨b, o + i, none⟩ = some (.int .i64 (Z.getD i 0)) := by
  have hl : Z.length = n := by have := h.len; rwa [List.length_map] at this
  cases oa with
  | none => exact absurd (h.nil rfl) (by omega)
  | some ad =>
    have hc := h.cell ad rfl 0 (.int .i64 (Z.getD 0 0)) (by rw [List.getElem?_map, List.getElem?_eq_getElem (by omega)]; simp [show 0 < Z.length from by omega])
    have hz : ad.add 0 = ad := rfl
    rw [hz] at hc
    obtain ⟨b, o, sp⟩ := ad
    have hs : sp = none := by
      cases sp with
      | none => rfl
      | some s =>
        unfold World.cell? at hc
        split at hc <;> simp at hc
    subst hs
    refine ⟨b, o, rfl, ?_, hl, fun i hi => ?_⟩
    · unfold World.cell? at hc
      by_cases hlt : b < w.heap.size
      · exact hlt
      · rw [Array.getElem?_eq_none (by simp; omega)] at hc
        cases hc
    · have := h.cell _ rfl i (.int .i64 (Z.getD i 0)) (by rw [List.getElem?_map, List.getElem?_eq_getElem (by omega)]; simp [show i < Z.length from by omega])
      rwa [addr_add] at this

/-- The ints Z lie from place p of block b on. -/
structure Lies (w : World) (b p n : Nat) (Z : List Int) : Prop where
  len : Z.length = n
  lt : b < w.heap.size
  cell : ∀ i, i < n → w.cell? ⟨b, p + i, none⟩ = some (.int .i64 (Z.getD i 0))

theorem Lies.later {w w' : World} {b p n : Nat} {Z : List Int} (h : Lies w b p n Z) (hb : Below w.heap.size w w') : Lies w' b p n Z :=
  ⟨h.len, Nat.lt_of_lt_of_le h.lt hb.size, fun i hi => (hb.cell (p := ⟨b, p + i, none⟩) h.lt).trans (h.cell i hi)⟩

/-- A copy of an argument: nil, empty, or a block of its own, from 'base' on. -/
structure Copied (w : World) (oa : Option Addr) (n cap g : Nat) (Z : List Int) (base : Nat) : Prop where
  len : Z.length = n
  at0 : 0 < n → oa = some ⟨g, 0, none⟩ ∧ w.heap[g]? = some (ints Z) ∧ base ≤ g ∧ g < w.heap.size
  nil : oa = none → n = 0
  room : oa = none ∨ n ≤ cap

theorem Copied.later {w w' : World} {oa : Option Addr} {n cap g base : Nat} {Z : List Int} (h : Copied w oa n cap g Z base) (hb : Below w.heap.size w w') : Copied w' oa n cap g Z base :=
  ⟨h.len, fun hp => by obtain ⟨a, b, c, d⟩ := h.at0 hp; exact ⟨a, by rw [hb.block g d]; exact b, c, Nat.lt_of_lt_of_le d hb.size⟩, h.nil, h.room⟩

end Go.Proofs.Qxb6617690a
