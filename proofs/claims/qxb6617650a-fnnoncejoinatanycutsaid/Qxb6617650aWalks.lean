import Derived.Test.Qxb6617650aRows
import Derived.WalkKit
import Derived.Test.Qxb6617650aParts
namespace Go.Proofs.Qxb6617650a
open Go.RowKit Plain

theorem bytes_any (s : ByteArray) (i n : Int) (hs : s.size ≤ maxLen) (w : World) :
    Calls Try.prog 4 #[.string s, .int .i64 i, .int .u64 n] w fun e w' => e = .returned (.bool (decide (s.size ≤ 1048576))) ∧ w' = w := by
  unfold maxLen at hs
  by_cases h : s.size ≤ 1048576
  · go_enter Try.func4, Try.ntmps4
    go_wp2
    go_ret
    exact ⟨by simp [h], rfl⟩
  · go_enter Try.func4, Try.ntmps4
    go_wp2
    go_ret
    exact ⟨by simp [h], rfl⟩

theorem wf_any (s : ByteArray) (w : World) :
    Calls Try.prog 7 #[.string s] w fun e w' => e = .returned (.bool (wfN s)) ∧ w' = w := by
  by_cases h0 : s.size = 0
  · have hb : ((s.size : Int) == 0) = true := by simp [h0]
    have hw := wfN_len (s := s) (Or.inl h0)
    rw [hw]
    clear hw
    go_enter Try.func7, Try.ntmps7
    go_wp2
    go_ret
    exact ⟨rfl, rfl⟩
  by_cases h1 : 20 < s.size
  · have hw := wfN_len (s := s) (Or.inr h1)
    rw [hw]
    clear hw
    go_enter Try.func7, Try.ntmps7
    go_wp2
    go_ret
    exact ⟨rfl, rfl⟩
  · have hb : ((s.size : Int) == 0) = false := by simp [h0]
    have h20 : s.size ≤ 20 := by omega
    have h01 : 1 ≤ s.size := by omega
    clear h1 h0
    go_enter Try.func7, Try.ntmps7
    go_wp2
    go_loop [3] (fun i => ∃ k : Nat, k ≤ s.size ∧ i = .int .i64 k ∧ (s.data.toList.take k).all digB = true) (fun i => s.size - (intOf i).toNat)
    case atStart => exact ⟨0, Nat.zero_le _, rfl, by simp⟩
    case round =>
      obtain ⟨k, hk, rfl, ha⟩ := hrel
      have HA := hide ha
      clear ha
      by_cases hlt : k < s.size
      · by_cases c1 : (s[k].toNat : Int) < 48
        · have hw := hide (wfN_no k hlt (Or.inl c1))
          go_wp2
          go_ret
          exact ⟨by rw [unhide hw]; rfl, rfl⟩
        · by_cases c2 : (57 : Int) < (s[k].toNat : Int)
          · have hw := hide (wfN_no k hlt (Or.inr c2))
            go_wp2
            go_ret
            exact ⟨by rw [unhide hw]; rfl, rfl⟩
          · have hn := hide (all_snoc hlt (unhide HA) c1 c2)
            go_wp2
            go_round
            case rel => exact ⟨k + 1, by omega, by go_num, unhide hn⟩
            case measure => simp [intOf]; omega
      · have e : k = s.size := by omega
        have hy := hide (wfN_yes h01 h20 (by rw [← e]; exact unhide HA))
        clear e
        go_wp2
        go_ret
        exact ⟨by rw [unhide hy]; rfl, rfl⟩

theorem zzwf_any (s : ByteArray) (w : World) :
    Calls Try.prog 5 #[.string s] w fun e w' => e = .returned (.bool (wfN s)) ∧ w' = w := by
  go_enter Try.func5, Try.ntmps5
  go_wp2_with (go_at_call 7; refine (wf_any s _).mono ?_; rintro e w' ⟨rfl, rfl⟩)
  go_ret
  exact ⟨rfl, rfl⟩

end Go.Proofs.Qxb6617650a
