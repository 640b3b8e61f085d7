/- '(*keptSet).each' with the closure: a set that lists its members. -/
import Derived.Test.Qxb6616078aDoorClo
namespace Go.Proofs.Qxb6616078aDoor
open Go.RowKit

theorem nats_take_step (F : List Nat) (k : Nat) (hk : k < F.length) : F.take (k + 1) = F.take k ++ [F.getD k 0] := Plain.take_step F k hk

set_option maxHeartbeats 1600000 in
theorem each_listed (q c n ca : Nat) (oa : Option Addr) (F : List Nat) (v : Value) (w : World) (hn : n ≤ 65536)
    (h0 : w.cell? ⟨q, 0, none⟩ = some (.slice oa n ca)) (h1 : w.cell? ⟨q, 1, none⟩ = some (.slice none 0 0))
    (hst : ∀ wr, Below c w wr → Arg wr oa n (nats F)) (hO : Out c w [] v) :
    Calls Tryd.prog 9 #[.pointer (some ⟨q, 0, none⟩), .func (.func 10) #[] #[.pointer (some ⟨c, 0, none⟩)]] w fun e w' => e = .returned (.tuple #[]) ∧ (∃ v', Out c w' F v') ∧ Below c w w' := by
  have hnil := fun W => Lib.run_eql_slice_nil (P := Tryd.prog) W 26 27 none 0 0 0 0 Tryd.underlying26
  have hA := hst w (Below.refl _ _)
  have hl : F.length = n := by have := hA.len; rwa [nats_len] at this
  by_cases hp : 0 < n
  · obtain ⟨b, o, rfl, _, -⟩ := hA.plain hp
    have Hst := hide hst
    have HO := hide hO
    have Hl := hide hl
    clear hst hO hl hA
    go_enter Tryd.func9, Tryd.ntmps9
    go_wp2
    go_loopg [18] n (fun g s18 wr => ∃ k : Nat, s18 = .int .i64 k ∧ g + k = n ∧ (∃ v', Out c wr (F.take k) v') ∧ Below c w wr)
    case atStart => exact ⟨0, rfl, rfl, ⟨v, by simpa using unhide HO⟩, Below.refl _ _⟩
    case round =>
      obtain ⟨k, rfl, hg, ⟨v', hOk⟩, hbel⟩ := hrel
      by_cases k1 : k < n
      · have hat := nats_at (F := F) (i := k) (by rw [unhide Hl]; exact k1)
        obtain ⟨b', o', e', _, hcx⟩ := (unhide Hst wr hbel).plain hp
        obtain ⟨rfl, rfl⟩ : b = b' ∧ o = o' := by simpa using e'
        have hx := hcx k _ hat
        have hcl := clo_any c (F.getD k 0) (F.take k) v' wr hOk (by rw [List.length_take]; omega)
        rw [← nats_take_step F k (by rw [unhide Hl]; exact k1)] at hcl
        obtain ⟨x, ex⟩ : ∃ x : Int, x = ((F.getD k 0 : Nat) : Int) := ⟨_, rfl⟩
        rw [← ex] at hx hcl
        have Hcl := hide hcl
        have Hb := hide hbel
        have Hg := hide hg
        clear hcl hbel hg hOk hcx hat e' ex
        go_wp2_with fail
        refine (unhide Hcl).mono ?_
        rintro e w2 ⟨rfl, ho2, hb2⟩
        have H2 := hide (And.intro ho2 ((unhide Hb).trans hb2))
        clear ho2 hb2
        go_wp2_with fail
        go_roundg (gk - 1)
        case measure => have := unhide Hg; omega
        case rel => exact ⟨k + 1, by go_num, by have := unhide Hg; omega, (unhide H2).1, (unhide H2).2⟩
      · obtain rfl : k = n := by omega
        rw [← unhide Hl, List.take_length] at hOk
        have H2 := hide (And.intro hOk hbel)
        clear hg hOk hbel
        go_wp2
        first | go_end0 | (simp only [Exit.inBlock, Exit.then]; refine bodyPost_ret (results_none rfl _ _ _) rfl ?_) | refine bodyPost_ret (results_none rfl _ _ _) rfl ?_
        exact ⟨rfl, ⟨_, (unhide H2).1⟩, (unhide H2).2⟩
  · obtain rfl : n = 0 := by omega
    have : F = [] := List.length_eq_zero_iff.1 hl
    subst this
    have HO := hide hO
    clear hA hl hst hO
    go_enter Tryd.func9, Tryd.ntmps9
    go_wp2
    refine wp_loop_rounds 1 ?_
    rw [rounds_succ]
    go_wp2
    first | go_end0 | (simp only [Exit.inBlock, Exit.then]; refine bodyPost_ret (results_none rfl _ _ _) rfl ?_) | refine bodyPost_ret (results_none rfl _ _ _) rfl ?_
    exact ⟨rfl, ⟨_, unhide HO⟩, Below.refl _ _⟩

end Go.Proofs.Qxb6616078aDoor
