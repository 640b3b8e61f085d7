import Derived.Test.Qxb6617690aFur
namespace Go.Proofs.Qxb6617690a
open Go.RowKit Plain

/-- A part of a text, by its place: 0, 1: the first, the second of two in a row; 2: what a block holds; 3: what a loop holds. -/
def sub : List Nat → Code → Code
  | 0 :: p, .seq a _ => sub p a
  | 1 :: p, .seq _ b => sub p b
  | 2 :: p, .block _ c => sub p c
  | 3 :: p, .loop c => sub p c
  | _, c => c

theorem lcp_le : ∀ (A B : List Int), lcp A B ≤ A.length ∧ lcp A B ≤ B.length
  | [], _ => by simp [lcp]
  | _ :: _, [] => by simp [lcp]
  | a :: ta, b :: tb => by
    have := lcp_le ta tb
    unfold lcp
    by_cases e : a = b
    · rw [if_pos e]; simp only [List.length_cons]; omega
    · rw [if_neg e]; simp

/-- The state while the search runs: the two tables hold F and G; nothing else has been touched. -/
structure St (w0 : World) (bf bg : Nat) (F G : List Int) (wr : World) : Prop where
  hf : wr.heap[bf]? = some (ints F)
  hg : wr.heap[bg]? = some (ints G)
  touch : Touch (fun k => k = bf ∨ k = bg) w0 wr

theorem St.stepF {w0 : World} {bf bg : Nat} {F G : List Int} {wr : World} (S : St w0 bf bg F G wr) (h : bf ≠ bg) (n j : Nat) (x : Int) : St w0 bf bg (F.set j x) G ((wr.drewN n).setCell ⟨bf, j, none⟩ (.int .i64 x)) :=
  ⟨ints_set (w := wr.drewN n) S.hf j x, by rw [Below.heap_setCell _ _ _ _ h.symm]; exact S.hg, (S.touch.drewN n).setCell (Or.inl rfl) _⟩

theorem St.stepG {w0 : World} {bf bg : Nat} {F G : List Int} {wr : World} (S : St w0 bf bg F G wr) (h : bf ≠ bg) (n j : Nat) (x : Int) : St w0 bf bg F (G.set j x) ((wr.drewN n).setCell ⟨bg, j, none⟩ (.int .i64 x)) :=
  ⟨by rw [Below.heap_setCell _ _ _ _ h]; exact S.hf, ints_set (w := wr.drewN n) S.hg j x, (S.touch.drewN n).setCell (Or.inr rfl) _⟩

/-- What the search is handed. -/
structure Handed (w0 : World) (A B : List Int) (bc bf bg ba pa bb pb aLo bLo la lb ca cb LF LG cf cg : Nat) (oa ob : Option Addr) : Prop where
  c0 : w0.cell? ⟨bc, 0, none⟩ = some (.slice oa la ca)
  c1 : w0.cell? ⟨bc, 1, none⟩ = some (.slice ob lb cb)
  c4 : w0.cell? ⟨bc, 4, none⟩ = some (.slice (some ⟨bf, 0, none⟩) LF cf)
  c5 : w0.cell? ⟨bc, 5, none⟩ = some (.slice (some ⟨bg, 0, none⟩) LG cg)
  bcl : bc < w0.heap.size
  bal : 0 < A.length → ba < w0.heap.size
  bbl : 0 < B.length → bb < w0.heap.size
  cfg : bc ≠ bf ∧ bc ≠ bg
  afg : ba ≠ bf ∧ ba ≠ bg
  bfg : bb ≠ bf ∧ bb ≠ bg
  fg : bf ≠ bg
  hoa : 0 < A.length → oa = some ⟨ba, pa, none⟩
  hob : 0 < B.length → ob = some ⟨bb, pb, none⟩
  ha : ∀ i, i < A.length → w0.cell? ⟨ba, pa + (aLo + i), none⟩ = some (.int .i64 (A.getD i 0))
  hb : ∀ i, i < B.length → w0.cell? ⟨bb, pb + (bLo + i), none⟩ = some (.int .i64 (B.getD i 0))
  hla : aLo + A.length ≤ la
  hlb : bLo + B.length ≤ lb
  la1 : la ≤ 4096
  lb1 : lb ≤ 4096
  lf1 : LF ≤ 32768
  lg1 : LG ≤ 32768

theorem prev_zero (A B : List Int) (off : Nat) (F : List Int) : tb F off 1 = 0 → Prev (mtL A B) off 0 F := by
  intro h
  exact ⟨fun _ => h, fun k a b _ => by omega⟩

end Go.Proofs.Qxb6617690a
