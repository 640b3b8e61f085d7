/- 'ZZKeptSetEach' at a set that lists its members, and at one that holds bits. -/
import Derived.Test.Qxb6616078aDoorEach
import Derived.Test.Qxb6616078aDoorPacked
namespace Go.Proofs.Qxb6616078aDoor
open Go.RowKit Plain

theorem out_new (w : World) : Out w.heap.size (w.alloc (.cells #[.slice none 0 0] 22)) [] (.slice none 0 0) :=
  ⟨by rw [World.cell?_alloc_at _ _ _ _ rfl]; rfl, World.frozen?_alloc_at _ _ _ _ rfl, World.ownsRow_nil _ _ _ _, by simp⟩

theorem keach_listed (q n ca : Nat) (oa : Option Addr) (F : List Nat) (w : World) (hn : n ≤ 65536)
    (h0 : w.cell? ⟨q, 0, none⟩ = some (.slice oa n ca)) (h1 : w.cell? ⟨q, 1, none⟩ = some (.slice none 0 0)) (hA : Arg w oa n (nats F)) :
    Calls Tryd.prog 8 #[.pointer (some ⟨q, 0, none⟩)] w fun e w' => ∃ oa' cap', e = .returned (.slice oa' n cap') ∧ Arg w' oa' n (nats F) ∧ Below w.heap.size w w' := by
  have hmf : ∀ (fn : Fn) (first cap : Array Value) (w : World), (Instr.makeFunc fn first cap).run Tryd.prog w = .ok (.func fn first cap) w := fun _ _ _ _ => rfl
  have hb1 : Below w.heap.size w (w.alloc (.cells #[.slice none 0 0] 22)) := (Below.refl _ _).alloc (Nat.le_refl _) _
  have hcall := each_listed q w.heap.size n ca oa F (.slice none 0 0) (w.alloc (.cells #[.slice none 0 0] 22)) hn ((copy_src h0 _).trans h0) ((copy_src h1 _).trans h1) (fun wr hb => hA.later (hb1.trans hb)) (out_new w)
  have hl : F.length = n := by have := hA.len; rwa [nats_len] at this
  have Hc := hide hcall
  have Hb := hide hb1
  have Hl := hide hl
  clear hcall hb1 hl hA h0 h1
  go_enter Tryd.func8, Tryd.ntmps8
  go_wp2_with fail
  refine (unhide Hc).mono ?_
  rintro e w2 ⟨rfl, ⟨v, hO⟩, hb2⟩
  obtain ⟨oa', cap', rfl, hA'⟩ := arg_of_owns hO.own
  have hcell := hO.cell
  rw [unhide Hl] at hA' hcell
  have H2 := hide (And.intro hA' ((unhide Hb).trans hb2))
  clear hO hA' hb2
  go_wp2
  go_ret
  exact ⟨oa', cap', rfl, (unhide H2).1, (unhide H2).2⟩

theorem keach_packed (q nw cb b : Nat) (F T : List Nat) (w : World) (hn : nw ≤ 1024)
    (h1 : w.cell? ⟨q, 1, none⟩ = some (.slice (some ⟨b, 0, none⟩) nw cb)) (hrow : w.heap[b]? = some (rowObj (words F) 27)) (hl : F.length = nw)
    (hF : ∀ j, F.getD j 0 < 18446744073709551616) (hT : allFrom 0 F = T) (hTl : T.length ≤ 65536) (hTab : TabAt 0 Lib.deBruijn64tab w) (hw : 0 < w.heap.size) :
    Calls Tryd.prog 8 #[.pointer (some ⟨q, 0, none⟩)] w fun e w' => ∃ oa' cap', e = .returned (.slice oa' T.length cap') ∧ Arg w' oa' T.length (nats T) ∧ Below w.heap.size w w' := by
  have hmf : ∀ (fn : Fn) (first cap : Array Value) (w : World), (Instr.makeFunc fn first cap).run Tryd.prog w = .ok (.func fn first cap) w := fun _ _ _ _ => rfl
  have hb1 : Below w.heap.size w (w.alloc (.cells #[.slice none 0 0] 22)) := (Below.refl _ _).alloc (Nat.le_refl _) _
  have hblt : b < w.heap.size := by
    by_cases h : b < w.heap.size
    · exact h
    · rw [Array.getElem?_eq_none (by omega)] at hrow
      cases hrow
  have hcall := each_packed q w.heap.size nw cb b F T (.slice none 0 0) (w.alloc (.cells #[.slice none 0 0] 22)) hn ((copy_src h1 _).trans h1) hblt (by rw [hb1.block b hblt]; exact hrow) hl hF hT hTl (tab_later hw hTab hb1) (out_new w)
  have Hc := hide hcall
  have Hb := hide hb1
  clear hcall hb1 hl h1 hrow hF hT hTab
  go_enter Tryd.func8, Tryd.ntmps8
  go_wp2_with fail
  refine (unhide Hc).mono ?_
  rintro e w2 ⟨rfl, ⟨v, hO⟩, hb2⟩
  obtain ⟨oa', cap', rfl, hA'⟩ := arg_of_owns hO.own
  have hcell := hO.cell
  have H2 := hide (And.intro hA' ((unhide Hb).trans hb2))
  clear hO hA' hb2
  go_wp2
  go_ret
  exact ⟨oa', cap', rfl, (unhide H2).1, (unhide H2).2⟩

end Go.Proofs.Qxb6616078aDoor
