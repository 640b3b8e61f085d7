/- The proof of 'Rows.FnNonceJoinAtAnyCutSaid'. The frame is the skeleton tool's; the walk is ours. -/
import Derived.Test.Qxb6617650aRows
import Derived.WalkKit
import Derived.ProofKit
import Derived.OpenShut
import Derived.ShutString
import Derived.WalkSpells
import Derived.Test.Qxb6617650aWalks
import Derived.Test.Qxb6617650aDec
namespace Go.Proofs.Qxb6617650a.fnNonceJoinAtAnyCut
open Go.ChangeShapes Go.WideShapes Go.ChangeAt Go.RowKit Plain
open Go.ChangeMaps (open_string shut_string)
set_option linter.unusedVariables false      -- a walk need not use every 'w<i>' (that an integer argument fits its kind)

theorem own : ownKnob Try.prog.godebug = none := by kernel_rfl

/-! ### STEP 1: THE WALK -/
set_option linter.unusedSimpArgs false
set_option maxHeartbeats 8000000 in
theorem walk_main (s : ByteArray) (k : Nat) (n : Int) (hs : s.size ≤ 65536) (i1 : k ≤ s.size) (n0 : 0 ≤ n) (n1 : n ≤ 18446744073709551615) (w : World) :
    Calls Try.prog 3 #[.string s, .int .i64 k, .int .u64 n] w fun e w' => e = .returned (.bool true) ∧ Grown w w' := by
  have hb : decide (s.size ≤ 1048576) = true := by simp; omega
  have H1 := hide (whole_eq s k)
  have H2 := hide (fun d hd => inserted_eq s d k hd)
  have sp := size_parts s k i1
  have Hsz := hide sp
  have z1 := empty_size (s.extract 0 k)
  have z2 := empty_size (s.extract k s.size)
  rw [sp.1] at z1
  rw [sp.2] at z2
  clear sp
  rcases part_ways (s.extract 0 k) with ⟨ea, va⟩ | ⟨ea, va⟩ | ⟨ea, va⟩
  all_goals rcases part_ways (s.extract k s.size) with ⟨eb, vb⟩ | ⟨eb, vb⟩ | ⟨eb, vb⟩
  all_goals rw [ea] at z1
  all_goals rw [eb] at z2
  all_goals by_cases c1 : 1 ≤ s.size
  all_goals by_cases c2 : s.size ≤ 20
  all_goals simp only [true_iff, Bool.false_eq_true, false_iff] at z1 z2
  all_goals try (exfalso; omega)
  all_goals
    have hw := unhide H1
    simp only [ea, va, eb, vb, c1, c2, decide_true, decide_false, Bool.or_true, Bool.or_false, Bool.and_true, Bool.and_false, Bool.true_and, Bool.false_and] at hw
    have H3 := hide (fun d hd => (by have := unhide H2 d hd; simp only [ea, va, eb, vb, Bool.or_true, Bool.or_false, Bool.or_self, Bool.and_true, Bool.and_false, Bool.and_self] at this; exact this))
  all_goals clear z1 z2 H1 H2
  all_goals
    go_enter Try.func3, Try.ntmps3
    go_wp2_with (first | (go_at_call 4; refine (bytes_any s _ _ (by unfold maxLen; omega) _).mono ?_; rintro e w' ⟨rfl, rfl⟩; rw [hb]) | (go_at_call 5; refine (zzwf_any _ _).mono ?_; rintro e w' ⟨rfl, rfl⟩))
    refine (dec_any n n0 n1 _).mono ?_
    rintro e w1 ⟨d, rfl, hd, hg⟩
    have hdz := wfN_size hd
    have hins := unhide H3 d hd
    have t1 : (s.extract 0 k).size ≤ 65536 := by rw [(unhide Hsz).1]; omega
    have t2 : (s.extract k s.size).size ≤ 65536 := by rw [(unhide Hsz).2]; omega
    by_cases c3 : s.size + d.size ≤ 20
  all_goals try (exfalso; omega)
  all_goals
    try simp only [c3, decide_true, decide_false, Bool.true_and, Bool.false_and] at hins
    go_wp2_with (first | (go_at_call 5; refine (zzwf_any _ _).mono ?_; rintro e w' ⟨rfl, rfl⟩))
    go_ret
    exact ⟨rfl, hg⟩

theorem walk_long (s : ByteArray) (i n : Int) (h0 : s.size ≤ maxLen) (hs : 65536 < s.size) (w : World) :
    Calls Try.prog 3 #[.string s, .int .i64 i, .int .u64 n] w fun e w' => e = .returned (.bool true) ∧ Grown w w' := by
  by_cases h : s.size ≤ 1048576
  · have hb : decide (s.size ≤ 1048576) = true := by simp [h]
    go_enter Try.func3, Try.ntmps3
    go_wp2_with (first | (go_at_call 4; refine (bytes_any s _ _ h0 _).mono ?_; rintro e w' ⟨rfl, rfl⟩; rw [hb]))
    go_ret
    exact ⟨rfl, Grown.refl _⟩
  · have hb : decide (s.size ≤ 1048576) = false := by simp [h]
    go_enter Try.func3, Try.ntmps3
    go_wp2_with (first | (go_at_call 4; refine (bytes_any s _ _ h0 _).mono ?_; rintro e w' ⟨rfl, rfl⟩; rw [hb]))
    go_ret
    exact ⟨rfl, Grown.refl _⟩

theorem walk_out (s : ByteArray) (i n : Int) (hs : s.size ≤ 65536) (hi : i < 0 ∨ (s.size : Int) < i) (w : World) :
    Calls Try.prog 3 #[.string s, .int .i64 i, .int .u64 n] w fun e w' => e = .returned (.bool true) ∧ Grown w w' := by
  have hb : decide (s.size ≤ 1048576) = true := by simp; omega
  by_cases h : i < 0
  · go_enter Try.func3, Try.ntmps3
    go_wp2_with (first | (go_at_call 4; refine (bytes_any s _ _ (by unfold maxLen; omega) _).mono ?_; rintro e w' ⟨rfl, rfl⟩; rw [hb]))
    go_ret
    exact ⟨rfl, Grown.refl _⟩
  · have h' : (s.size : Int) < i := by omega
    clear hi
    go_enter Try.func3, Try.ntmps3
    go_wp2_with (first | (go_at_call 4; refine (bytes_any s _ _ (by unfold maxLen; omega) _).mono ?_; rintro e w' ⟨rfl, rfl⟩; rw [hb]))
    go_ret
    exact ⟨rfl, Grown.refl _⟩

theorem walk (a0 : ByteArray) (a1 : Int) (a2 : Int) (w0 : a0.size ≤ maxLen) (w1 : (Lit.int .i64 a1).wf = true) (w2 : (Lit.int .u64 a2).wf = true) (w : World) :
    Calls Try.prog 3 #[.string a0, .int .i64 a1, .int .u64 a2] w fun e w' => e = .returned (.bool true) ∧ Grown w w' := by
  by_cases h1 : a0.size ≤ 65536
  · by_cases h2 : 0 ≤ a1 ∧ a1 ≤ a0.size
    · obtain ⟨k, rfl⟩ := Int.eq_ofNat_of_zero_le h2.1
      have hb := bounds_u64 w2
      exact walk_main a0 k a2 h1 (by omega) hb.1 hb.2 w
    · exact walk_out a0 a1 a2 h1 (by omega) w
  · exact walk_long a0 a1 a2 w0 (by omega) w

/-! ### THE ROW's STEP: WRITTEN OUT: LEAVE IT -/
set_option maxRecDepth 100000 in
theorem lifted (os : Os) (started : os.Started) (H : Type) (enc : TypeId × Value → H) :
    ReturnsInHanded {} Try.checked os 3 .any (Rows.fnNonceJoinAtAnyCutSpec.pre6 enc Try.prog Try.f3 Rows.fnNonceJoinAtAnyCutRow.domain false) (Rows.fnNonceJoinAtAnyCutSpec.post enc Try.prog Try.f3 false true false false) := by
  refine returnsInHanded_of_change (C := Try.checked) own started (by kernel_rfl) Try.func3
    (ChangeSpec.witness6 (enc := enc) (C := Try.checked) false ⟨#[], #[.string ByteArray.empty, .int .i64 0, .int .u64 0], []⟩ 8 (by kernel_rfl) (by kernel_rfl) (by kernel_rfl) (by kernel_rfl)) ?_
  intro W base args ds gs before hval0 hW hcnd _
  have hval : ∀ (j : Nat) t v, Try.f3.params[j]? = some t → args[j]? = some v → Value.okWide Try.prog W .any base t v := hval0
  have hW' := hW
  obtain ⟨p, q, hA0, hV, rfl, hfz, hnd⟩ := hW
  have hA : DataW.TrodAll enc Try.prog W 0 (fun _ => true) true Try.f3.params.toList args.toList ds p := hA0
  rw [Try.params3] at hA hval
  obtain ⟨v0, vs0, d0, ds0, p0, q0, hargs, rfl, rfl, h0, r0⟩ := trodAll_cons hA
  obtain ⟨v1, vs1, d1, ds1, p1, q1, rfl, rfl, rfl, h1, r1⟩ := trodAll_cons r0
  obtain ⟨v2, vs2, d2, ds2, p2, q2, rfl, rfl, rfl, h2, r2⟩ := trodAll_cons r1
  obtain ⟨rfl, rfl, rfl⟩ := trodAll_nil r2
  obtain rfl : args = #[v0, v1, v2] := by cases args; simp_all
  obtain ⟨rfl, rfl⟩ := trodVars_none hV
  obtain ⟨a0, rfl, rfl, rfl, w0⟩ := open_string Try.underlying9 (hval 0 9 v0 rfl rfl) h0
  obtain ⟨a1, rfl, rfl, rfl, w1⟩ := open_int Try.underlying3 (hval 1 3 v1 rfl rfl) h1
  obtain ⟨a2, rfl, rfl, rfl, w2⟩ := open_int Try.underlying22 (hval 2 22 v2 rfl rfl) h2
  clear hA0 hval0
  simp only [List.append_nil] at hW'
  refine (walk a0 a1 a2 w0 w1 w2 W).mono fun e W' ⟨he, hg⟩ => ?_
  subst he
  exact ⟨_, rfl, post_of_same (pa := []) (pv := []) hW' (fun _ _ _ => (trodAll_cons_mk (shut_bool Try.underlying4 _) trodAll_mk0)) (fun sp _ => (trodAll_cons_mk (shut_string Try.underlying9 w0) (trodAll_cons_mk (shut_int Try.underlying3 w1) (trodAll_cons_mk (shut_int Try.underlying22 w2) trodAll_mk0)))) (fun _ _ => rfl) rfl
    (hg.frame _) hg.2.1 (ok_one (by kernel_rfl) rfl (okWide_bool_mk Try.underlying4 _))⟩

theorem over : Rows.fnNonceJoinAtAnyCutRow.holds Try.pinned (OpenSpec.ofChange Rows.fnNonceJoinAtAnyCutSpec) :=
  OpenClaim.holds_of_wide 3 Try.f3 rfl rfl rfl rfl rfl rfl rfl ⟨rfl, rfl, rfl, rfl, rfl⟩ rfl rfl rfl rfl rfl (by kernel_rfl) Try.func3 (by kernel_rfl)
    (of_decide_eq_true (by kernel_rfl)) (by unfold Func.isWrapper; first | (rw [if_pos (by decide +kernel)]; kernel_rfl) | (rw [if_neg (by decide +kernel)]; exact ⟨rfl, rfl⟩))
    (fun os started H enc _ => lifted os started H enc)

/-- ████ THE STATEMENT ████ -/
theorem proved : Rows.FnNonceJoinAtAnyCutSaid :=
  over
end Go.Proofs.Qxb6617650a.fnNonceJoinAtAnyCut
