import Derived.Test.Qxb6617650aRows
import Derived.WalkKit
import Derived.WalkSpells
import Derived.Laws.IdiomStrings
import Derived.Test.Qxb6617650aParts
namespace Go.Proofs.Qxb6617650a
open Go.RowKit Plain

structure DecRel (w : World) (m : Int) (p : Nat) (l : List UInt8) (wr : World) : Prop where
  pos : 1 ≤ p
  len : p + l.length = 20
  m0 : 0 ≤ m
  m1 : m ≤ 18446744073709551615
  pow : m.toNat < 10 ^ p
  dig : l.all digB = true
  cells : ∀ j (hj : j < l.length), wr.cell? ⟨w.heap.size, p + j, none⟩ = some (.int .u8 (l[j].toNat : Int))
  there : ∀ j, j < 20 → ∃ v, wr.cell? ⟨w.heap.size, j, none⟩ = some v
  free : ∀ j, wr.frozen? ⟨w.heap.size, j, none⟩ = false
  grown : Grown w wr

theorem addr_add (b o j : Nat) : (⟨b, o, none⟩ : Addr).add j = ⟨b, o + j, none⟩ := by
  unfold Addr.add
  split
  · rename_i h; subst h; rfl
  · rfl

theorem arr_len : Try.prog.arrayLen 26 = 20 := by kernel_rfl
theorem arr_und : Try.prog.underlying 26 = some (.array (Try.prog.arrayLen 26) (Try.prog.elem 26)) := by kernel_rfl
theorem arr_size (w : World) : (sizeOf (Try.prog.elem 26)).run Try.prog w = .ok 1 w := by kernel_rfl

theorem slice_buf (b p : Nat) (h1 : 1 ≤ p) (h2 : p ≤ 20) (W : World) :
    (Instr.sliceAt 26 (.pointer (some ⟨b, 0, none⟩)) (some (.int .i64 ((p : Int) - 1))) none none).run Try.prog W = .ok (.slice (some ⟨b, p - 1, none⟩) (20 - (p - 1)) (20 - (p - 1))) W := by
  rw [run_sliceAt_array_l W 26 ⟨b, 0, none⟩ arr_und .i64 ((p : Int) - 1) (by omega) (by rw [arr_len]; omega), arr_size]
  have e : ((p : Int) - 1).toNat = p - 1 := by omega
  simp only [Result.andThen, slicedAt, arr_len, e]
  rw [if_neg (by omega), addr_add, Nat.zero_add, Nat.mul_one]

theorem dig_of (m : Int) : (UInt8.ofNat (48 + m % 10).toNat).toNat = (48 + m % 10).toNat := by
  rw [UInt8.toNat_ofNat']; omega

theorem DecRel.step {w : World} {m : Int} {p : Nat} {l : List UInt8} {wr : World} (R : DecRel w m p l wr) :
    ∀ q : Nat, q + 1 = p → ∀ wx : World, wx = wr.setCell ⟨w.heap.size, q, none⟩ (.int .u8 (48 + m % 10)) →
      (∀ j (hj : j < (UInt8.ofNat (48 + m % 10).toNat :: l).length), wx.cell? ⟨w.heap.size, q + j, none⟩ = some (.int .u8 (((UInt8.ofNat (48 + m % 10).toNat :: l)[j]).toNat : Int))) ∧
      (UInt8.ofNat (48 + m % 10).toNat :: l).all digB = true ∧
      (∀ j, j < 20 → ∃ v, wx.cell? ⟨w.heap.size, j, none⟩ = some v) ∧ (∀ j, wx.frozen? ⟨w.heap.size, j, none⟩ = false) ∧ Grown w wx := by
  intro q hq wx hwx
  subst hwx
  have hd := dig_of m
  have hl := R.len
  refine ⟨?_, ?_, ?_, ?_, ?_⟩
  · intro j hj
    cases j with
    | zero =>
      obtain ⟨v, hv⟩ := R.there q (by omega)
      simp only [Nat.add_zero, List.getElem_cons_zero, hd]
      rw [World.cell?_setCell_same _ _ _ hv, Int.toNat_of_nonneg (by omega)]
    | succ j =>
      simp only [List.length_cons] at hj
      simp only [List.getElem_cons_succ]
      have := R.cells j (by omega)
      rw [World.cell?_setCell_other _ _ _ _ (by intro h; injection h; omega), ← this]
      congr 2
      omega
  · rw [List.all_cons, R.dig]
    have : digB (UInt8.ofNat (48 + m % 10).toNat) = true := by
      unfold digB
      rw [hd]
      have a1 : 48 ≤ (48 + m % 10).toNat := by omega
      have a2 : (48 + m % 10).toNat ≤ 57 := by omega
      simp [a1, a2]
    simp [this]
  · intro j hj
    obtain ⟨v, hv⟩ := R.there j hj
    exact cell?_setCell_some hv
  · intro j
    rw [World.frozen?_setCell]
    exact R.free j
  · exact R.grown.setCell (Nat.le_refl _) _

theorem dec_any (n : Int) (h0 : 0 ≤ n) (h1 : n ≤ 18446744073709551615) (w : World) :
    Calls Try.prog 6 #[.int .u64 n] w fun e w' => ∃ s : ByteArray, e = .returned (.string s) ∧ wfN s = true ∧ Grown w w' := by
  go_enter Try.func6, Try.ntmps6
  go_wp2
  go_loopw [0, 4] (fun vn vp wr => ∃ (m : Int) (p : Nat) (l : List UInt8), vn = .int .u64 m ∧ vp = .int .i64 p ∧ DecRel w m p l wr) (fun _ vp _ => (intOf vp).toNat)
  case atStart => 
    refine ⟨n, 20, [], rfl, rfl, by omega, rfl, h0, h1, by omega, rfl, by simp, ?_, ?_, ?_⟩
    · intro j hj
      rw [World.cell?_alloc_at _ _ _ _ rfl]
      exact ⟨_, Array.getElem?_eq_getElem (by simpa using hj)⟩
    · intro j
      simp
    · exact (Grown.refl _).alloc _ _
  case round =>
    obtain ⟨m, p, l, rfl, rfl, R⟩ := hrel
    have a1 := R.pos
    have a2 := R.m0
    have a3 := R.m1
    have a4 : p ≤ 20 := by have := R.len; omega
    have a5 : (p : Int) - 1 < 20 := by omega
    obtain ⟨v, a6⟩ := R.there (p - 1) (by omega)
    have a7 := R.free (p - 1)
    by_cases hm : m / 10 = 0
    · have hb : (m / 10 == 0) = true := by simp [hm]
      have q1 : (0 : Int) ≤ (p : Int) - 1 := by omega
      have q2 : (p : Int) - 1 ≤ 20 := by omega
      obtain ⟨c1, c2, c3, c4, c5⟩ := R.step (p - 1) (by omega) _ rfl
      have hl := R.len
      have hcv := run_convert_bytes_back (P := Try.prog) (wr.setCell ⟨w.heap.size, p - 1, none⟩ (.int .u8 (48 + m % 10))) 27 9 5 ⟨w.heap.size, p - 1, none⟩ (20 - (p - 1)) (UInt8.ofNat (48 + m % 10).toNat :: l) Try.underlying27 Try.underlying5 Try.underlying9 (fun j hj => by rw [addr_add]; exact c1 j hj)
      have hle : (UInt8.ofNat (48 + m % 10).toNat :: l).length = 20 - (p - 1) := by simp; omega
      rw [hle] at hcv
      have hfin : wfN ⟨(UInt8.ofNat (48 + m % 10).toNat :: l).toArray⟩ = true := by
        unfold wfN wfL
        simp only [hle, c2]
        have : 1 ≤ 20 - (p - 1) := by omega
        have : 20 - (p - 1) ≤ 20 := by omega
        simp [*]
      clear c1 c2 c3 c4 hle hl
      have hsl := fun W => slice_buf w.heap.size p a1 a4 W
      generalize (UInt8.ofNat (48 + m % 10).toNat :: l).toArray = arr at *
      have HF := hide hfin
      have H5 := hide c5
      clear R hfin c5
      go_wp2
      go_ret
      exact ⟨⟨arr⟩, rfl, unhide HF, unhide H5⟩
    · have hb : (m / 10 == 0) = false := by simp [hm]
      go_wp2
      go_roundw
      case rel => 
        obtain ⟨c1, c2, c3, c4, c5⟩ := R.step (p - 1) (by omega) _ rfl
        have hpw : (m / 10).toNat < 10 ^ (p - 1) := by
          have h := R.pow
          have e : 10 ^ p = 10 * 10 ^ (p - 1) := by
            obtain ⟨q, rfl⟩ : ∃ q, p = q + 1 := ⟨p - 1, by omega⟩
            rw [Nat.pow_succ, Nat.add_sub_cancel, Nat.mul_comm]
          rw [e] at h
          omega
        have hp1 : 1 ≤ p - 1 := by
          by_cases hz : p - 1 = 0
          · rw [hz] at hpw
            omega
          · omega
        exact ⟨m / 10, p - 1, UInt8.ofNat (48 + m % 10).toNat :: l, rfl, by go_num, hp1, by have := R.len; simp; omega, by omega, by omega, hpw, c2, c1, c3, c4, c5⟩
      case measure => simp [intOf]; omega
end Go.Proofs.Qxb6617650a
