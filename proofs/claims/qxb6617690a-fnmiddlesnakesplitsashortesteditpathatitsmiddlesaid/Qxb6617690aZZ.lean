import Derived.Test.Qxb6617690aSmall
import Derived.Test.Qxb6617690aSnakeWalk
namespace Go.Proofs.Qxb6617690a
open Go.RowKit Plain

/-- A slice whose stretch from lo on holds A. -/
structure Stretch (w : World) (A : List Int) (lo n : Nat) (oa : Option Addr) (ba pa : Nat) : Prop where
  fit : lo + A.length ≤ n
  addr : 0 < A.length → oa = some ⟨ba, pa, none⟩ ∧ ba < w.heap.size
  cells : ∀ i, i < A.length → w.cell? ⟨ba, pa + (lo + i), none⟩ = some (.int .i64 (A.getD i 0))

theorem ans_tuple (aLo bLo aHi bHi : Nat) (A B : List Int) (R : Bool × Int × Int × List Int × List Int) : ∃ x0 y0 x1 y1, ans aLo bLo aHi bHi A B R = .tuple #[.int .i64 x0, .int .i64 y0, .int .i64 x1, .int .i64 y1] := by
  obtain ⟨f, k, s, F, G⟩ := R
  cases f
  · exact ⟨_, _, _, _, rfl⟩
  · exact ⟨_, _, _, _, rfl⟩

theorem zz_any (w : World) (A B F G : List Int) (bf bg ba pa bb pb aLo bLo aHi bHi la lb ca cb cf cg : Nat) (oa ob o2 o3 : Option Addr) (n2 n3 c2 c3 : Nat)
    (SA : Stretch w A aLo la oa ba pa) (SB : Stretch w B bLo lb ob bb pb) (la1 : la ≤ 4096) (lb1 : lb ≤ 4096) (lf1 : F.length ≤ 32768) (lg1 : G.length ≤ 32768)
    (hf : w.heap[bf]? = some (ints F)) (hg : w.heap[bg]? = some (ints G)) (fg : bf ≠ bg) (afg : 0 < A.length → ba ≠ bf ∧ ba ≠ bg) (bfg : 0 < B.length → bb ≠ bf ∧ bb ≠ bg)
    (half off : Nat) (hhalf : half = (A.length + B.length + 1) / 2) (hoff : off = F.length / 2) (haHi : aHi = aLo + A.length) (hbHi : bHi = bLo + B.length)
    (ho : half ≤ off) (hF : off + half + 1 < F.length) (hG : off + half + 1 < G.length)
    (R : Bool × Int × Int × List Int × List Int)
    (hR : outer A B (decide (((A.length : Int) - B.length) % 2 ≠ 0)) ((A.length : Int) - B.length) A.length off (half + 1) 0 (F.set (off + 1) 0) (G.set (off + 1) 0) = some R) :
    Calls Try.prog 7 #[.slice oa la ca, .slice ob lb cb, .slice o2 n2 c2, .slice o3 n3 c3, .slice (some ⟨bf, 0, none⟩) F.length cf, .slice (some ⟨bg, 0, none⟩) G.length cg, .int .i64 aLo, .int .i64 aHi, .int .i64 bLo, .int .i64 bHi] w
      fun e w' => e = .returned (ans aLo bLo aHi bHi A B R) ∧ St w bf bg R.2.2.2.1 R.2.2.2.2 w' := by
  have lf : bf < w.heap.size := (Array.getElem?_eq_some_iff.1 hf).1
  have lg : bg < w.heap.size := (Array.getElem?_eq_some_iff.1 hg).1
  obtain ⟨ba', hba⟩ : ∃ ba', (0 < A.length → ba' = ba) ∧ ba' ≠ bf ∧ ba' ≠ bg := by
    by_cases h : 0 < A.length
    · exact ⟨ba, fun _ => rfl, afg h⟩
    · exact ⟨w.heap.size, fun h' => absurd h' h, by omega, by omega⟩
  obtain ⟨bb', hbb⟩ : ∃ bb', (0 < B.length → bb' = bb) ∧ bb' ≠ bf ∧ bb' ≠ bg := by
    by_cases h : 0 < B.length
    · exact ⟨bb, fun _ => rfl, bfg h⟩
    · exact ⟨w.heap.size, fun h' => absurd h' h, by omega, by omega⟩
  have key : ∀ w1, w1 = w.alloc (.cells #[.slice oa la ca, .slice ob lb cb, .slice o2 n2 c2, .slice o3 n3 c3, .slice (some ⟨bf, 0, none⟩) F.length cf, .slice (some ⟨bg, 0, none⟩) G.length cg] 32) →
      Handed w1 A B w.heap.size bf bg ba' pa bb' pb aLo bLo la lb ca cb F.length G.length cf cg oa ob ∧ St w1 bf bg F G w1 := by
    intro w1 e1
    have sz : w1.heap.size = w.heap.size + 1 := by rw [e1]; simp
    refine ⟨⟨?_, ?_, ?_, ?_, by omega, ?_, ?_, ⟨by omega, by omega⟩, hba.2, hbb.2, fg, ?_, ?_, ?_, ?_, SA.fit, SB.fit, la1, lb1, lf1, lg1⟩, ⟨?_, ?_, Touch.refl _ _⟩⟩
    · rw [e1, World.cell?_alloc_at _ _ _ _ rfl]; rfl
    · rw [e1, World.cell?_alloc_at _ _ _ _ rfl]; rfl
    · rw [e1, World.cell?_alloc_at _ _ _ _ rfl]; rfl
    · rw [e1, World.cell?_alloc_at _ _ _ _ rfl]; rfl
    · intro h; rw [hba.1 h]; have := (SA.addr h).2; omega
    · intro h; rw [hbb.1 h]; have := (SB.addr h).2; omega
    · intro h; rw [hba.1 h]; exact (SA.addr h).1
    · intro h; rw [hbb.1 h]; exact (SB.addr h).1
    · intro i hi
      have h : 0 < A.length := by omega
      rw [hba.1 h, e1, World.cell?_alloc_lt _ _ _ (SA.addr h).2]
      exact SA.cells i hi
    · intro i hi
      have h : 0 < B.length := by omega
      rw [hbb.1 h, e1, World.cell?_alloc_lt _ _ _ (SB.addr h).2]
      exact SB.cells i hi
    · rw [e1, Below.heap_alloc _ _ _ lf]; exact hf
    · rw [e1, Below.heap_alloc _ _ _ lg]; exact hg
  obtain ⟨k1, k2⟩ := key _ rfl
  have hc := snake_any _ A B F G w.heap.size bf bg ba' pa bb' pb aLo bLo aHi bHi la lb ca cb cf cg oa ob k1 k2 half off hhalf hoff haHi hbHi ho hF hG R hR
  obtain ⟨x0, y0, x1, y1, hans⟩ : ∃ x0 y0 x1 y1, ans aLo bLo aHi bHi A B R = .tuple #[.int .i64 x0, .int .i64 y0, .int .i64 x1, .int .i64 y1] := ans_tuple ..
  rw [hans] at hc ⊢
  have HC := hide hc
  clear hans hc k1 k2 key hR hhalf hoff haHi hbHi SA SB hba hbb hf hg afg bfg ho hF hG
  go_enter Try.func7, Try.ntmps7
  go_wp2_with (go_at_call 11; refine (unhide HC).mono ?_; rintro e w' ⟨rfl, hst⟩)
  have Hst := hide hst
  clear hst
  go_wp2
  refine bodyPost_ret (v := .tuple #[.int .i64 x0, .int .i64 y0, .int .i64 x1, .int .i64 y1]) (by simp [results, Try.results7, go_sem]) rfl ⟨rfl, ?_⟩
  have S := unhide Hst
  exact ⟨S.hf, S.hg, ((Touch.refl _ _).alloc _).trans S.touch⟩

end Go.Proofs.Qxb6617690a
