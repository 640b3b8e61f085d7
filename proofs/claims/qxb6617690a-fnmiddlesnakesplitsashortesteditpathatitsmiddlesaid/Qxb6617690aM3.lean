import Derived.Test.Qxb6617690aCp3
import Derived.Test.Qxb6617690aAns
import Derived.Test.Qxb6617690aT3
import Derived.Test.Qxb6617690aEarly
namespace Go.Proofs.Qxb6617690a
open Go.RowKit Plain

set_option maxRecDepth 100000 in
set_option maxHeartbeats 8000000 in
theorem main3 (o0 o1 o2 o3 o4 o5 : Option Addr) (n0 n1 n2 n3 n4 n5 c0 c1 c2 c3 c4 c5 : Nat) (lo hi lo' hi' : Nat) (w : World) (ZA ZB ZF ZG : List Int) (cs2 cs3 : List Value)
    (A0 : Arg w o0 n0 (ZA.map (.int .i64))) (A1 : Arg w o1 n1 (ZB.map (.int .i64))) (A2 : Arg w o2 n2 cs2) (A3 : Arg w o3 n3 cs3) (A4 : Arg w o4 n4 (ZF.map (.int .i64))) (A5 : Arg w o5 n5 (ZG.map (.int .i64)))
    (k0 : n0 ≤ 4096) (k1 : n1 ≤ 4096) (k2 : n2 ≤ 65536) (k3 : n3 ≤ 65536) (k4 : n4 ≤ 32768) (k5 : n5 ≤ 32768) (k6 : lo ≤ hi) (k7 : hi ≤ n0) (k8 : lo' ≤ hi') (k9 : hi' ≤ n1) :
    Calls Try.prog 3 #[.slice o0 n0 c0, .slice o1 n1 c1, .slice o2 n2 c2, .slice o3 n3 c3, .slice o4 n4 c4, .slice o5 n5 c5, .int .i64 lo, .int .i64 hi, .int .i64 lo', .int .i64 hi'] w fun e w' => e = .returned (.bool true) ∧ Below w.heap.size w w' := by
  obtain ⟨b0, hb0⟩ : ∃ b, b = !o0.isNone := ⟨_, rfl⟩
  obtain ⟨b1, hb1⟩ : ∃ b, b = !o1.isNone := ⟨_, rfl⟩
  obtain ⟨b2, hb2⟩ : ∃ b, b = !o2.isNone := ⟨_, rfl⟩
  obtain ⟨b3, hb3⟩ : ∃ b, b = !o3.isNone := ⟨_, rfl⟩
  have e0 := fun W => run_neq_slice_nil_any (P := Try.prog) W 22 3 o0 n0 c0 0 0 Try.underlying22
  have e1 := fun W => run_neq_slice_nil_any (P := Try.prog) W 22 3 o1 n1 c1 0 0 Try.underlying22
  have e2 := fun W => run_neq_slice_nil_any (P := Try.prog) W 23 4 o2 n2 c2 0 0 Try.underlying23
  have e3 := fun W => run_neq_slice_nil_any (P := Try.prog) W 23 4 o3 n3 c3 0 0 Try.underlying23
  rw [← hb0] at e0
  rw [← hb1] at e1
  rw [← hb2] at e2
  rw [← hb3] at e3
  have H0 := hide hb0
  have H1 := hide hb1
  have H2 := hide hb2
  have H3 := hide hb3
  have HA0 := hide A0
  have HA1 := hide A1
  have HA2 := hide A2
  have HA3 := hide A3
  have HA4 := hide A4
  have HA5 := hide A5
  clear hb0 hb1 hb2 hb3 A0 A1 A2 A3 A4 A5
  go_enter Try.func3, Try.ntmps3
  go_wp2_with fail
  refine (bytes5 o0 o1 o2 o3 o4 o5 n0 n1 n2 n3 n4 n5 c0 c1 c2 c3 c4 c5 lo hi lo' hi' _).mono ?_
  rintro e w' ⟨b, rfl, hw⟩
  subst hw
  cases b with
  | false =>
    go_wp2
    go_ret
    exact ⟨rfl, Below.refl _ _⟩
  | true =>
    go_upto_if 94 with fail
    refine copy30 (unhide H0) (unhide HA0).len (unhide HA0).nil (unhide HA0).one (by omega) (unhide HA0).cell ?_
    intro oa ca ga u21 u95 u96 u97 u98 u99 u100 u101 wa ha na pa ba
    dsimp only
    have Ga := hide ha
    have Fa := hide pa
    have Na := hide na
    have Ba := hide ba
    clear ha na pa ba
    go_upto_if 103 with fail
    have A1' := (unhide HA1).later (unhide Ba)
    refine copy31 (unhide H1) A1'.len A1'.nil A1'.one (by omega) A1'.cell ?_
    clear A1'
    intro ob cb gb u22 u104 u105 u106 u107 u108 u109 u110 wb ha na pa ba
    dsimp only
    have Gb := hide ha
    have Fb := hide pa
    have Nb := hide na
    have Bb := hide (And.intro ba ((unhide Ba).trans (ba.mono (unhide Ba).size)))
    clear ha na pa ba
    go_upto_if 112 with fail
    have A2' := (unhide HA2).later (unhide Bb).2
    refine copy32 (unhide H2) A2'.len A2'.nil A2'.one (by omega) A2'.cell ?_
    clear A2'
    intro oc cc gc u23 u113 u114 u115 u116 u117 u118 u119 wc ha na pa ba
    dsimp only
    have Bc := hide (And.intro ba ((unhide Bb).2.trans (ba.mono (unhide Bb).2.size)))
    clear ha na pa ba
    go_upto_if 121 with fail
    have A3' := (unhide HA3).later (unhide Bc).2
    refine copy33 (unhide H3) A3'.len A3'.nil A3'.one (by omega) A3'.cell ?_
    clear A3'
    intro od cd gd u24 u122 u123 u124 u125 u126 u127 u128 wd ha na pa ba
    dsimp only
    have Bd := hide (And.intro ba ((unhide Bc).2.trans (ba.mono (unhide Bc).2.size)))
    clear ha na pa ba
    obtain ⟨nN, hnN⟩ : ∃ nN : Nat, nN = hi - lo := ⟨_, rfl⟩
    obtain ⟨mN, hmN⟩ : ∃ mN : Nat, mN = hi' - lo' := ⟨_, rfl⟩
    obtain ⟨half, hhalf⟩ : ∃ half : Nat, half = (nN + mN + 1) / 2 := ⟨_, rfl⟩
    obtain ⟨off, hoff⟩ : ∃ off : Nat, off = n4 / 2 := ⟨_, rfl⟩
    have en : (hi : Int) - lo = nN := by omega
    have em : (hi' : Int) - lo' = mN := by omega
    have eh : ((nN : Int) + mN + 1) / 2 = half := by omega
    have eo : (n4 : Int) / 2 = off := by omega
    have q1 : nN ≤ 4096 := by omega
    have q2 : mN ≤ 4096 := by omega
    have q3 : half ≤ 4097 := by omega
    have q4 : off ≤ 16384 := by omega
    have Hn := hide hnN
    have Hm := hide hmN
    have Hh := hide hhalf
    have Ho := hide hoff
    clear hnN hmN hhalf hoff e0 e1 e2 e3
    by_cases t1 : half ≤ off
    · by_cases t2 : off + half + 1 < n4
      · by_cases t3 : off + half + 1 < n5
        · obtain ⟨b4, p4, rfl, f1, f2, f3⟩ := (unhide HA4).plain (by omega)
          obtain ⟨b5, p5, rfl, g1, g2, g3⟩ := (unhide HA5).plain (by omega)
          have LF : Lies wd b4 p4 n4 ZF := (Lies.mk f2 f1 f3).later (unhide Bd).2
          have LG : Lies wd b5 p5 n5 ZG := (Lies.mk g2 g1 g3).later (unhide Bd).2
          have lZA : ZA.length = n0 := by have := (unhide HA0).len; rwa [List.length_map] at this
          have lZB : ZB.length = n1 := by have := (unhide HA1).len; rwa [List.length_map] at this
          have CA : Copied wd oa n0 ca ga ZA _ := (((Copied.mk lZA (unhide Ga) (unhide Na) (unhide Fa)).later (unhide Bb).1).later (unhide Bc).1).later (unhide Bd).1
          have CB : Copied wd ob n1 cb gb ZB _ := (((Copied.mk lZB (unhide Gb) (unhide Nb) (unhide Fb)).later (unhide Bc).1).later (unhide Bd).1).lower (unhide Ba).size
          have HX := hide (And.intro (And.intro LF LG) (And.intro CA CB))
          clear f1 f2 f3 g1 g2 g3 LF LG lZA lZB CA CB
          go_upto_region 41 with fail
          refine tail3 (half := half) (off := off) (unhide Bd).2 (unhide HX).2.1 (unhide HX).2.2 (unhide HX).1.1 (unhide HX).1.2 k0 k1 k4 k5 (by have := unhide Hn; omega) k7 (by have := unhide Hm; omega) k9 (unhide Hh) (unhide Ho) t1 t2 t3 ?_
          assumption
        · go_wp2_with fail
          go_ret
          exact ⟨rfl, (unhide Bd).2⟩
      · go_wp2_with fail
        go_ret
        exact ⟨rfl, (unhide Bd).2⟩
    · go_wp2_with fail
      go_ret
      exact ⟨rfl, (unhide Bd).2⟩
end Go.Proofs.Qxb6617690a
