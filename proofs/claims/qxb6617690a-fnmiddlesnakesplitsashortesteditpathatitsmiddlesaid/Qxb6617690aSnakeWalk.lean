import Derived.Test.Qxb6617690aI2
namespace Go.Proofs.Qxb6617690a
open Go.RowKit Plain

/-- The answer as the call hands it back. -/
def ans (aLo bLo aHi bHi : Nat) (A B : List Int) : Bool × Int × Int × List Int × List Int → Value
  | (true, k, s, _, _) => .tuple #[.int .i64 ((aLo : Int) + s), .int .i64 ((bLo : Int) + (s - k)), .int .i64 ((aLo : Int) + runEnd A B s k), .int .i64 ((bLo : Int) + (runEnd A B s k - k))]
  | (false, k, s, _, _) => .tuple #[.int .i64 ((aHi : Int) - runEnd A.reverse B.reverse s k), .int .i64 ((bHi : Int) - (runEnd A.reverse B.reverse s k - k)), .int .i64 ((aHi : Int) - s), .int .i64 ((bHi : Int) - (s - k))]

theorem St.first {w : World} {bf bg : Nat} {F G : List Int} (S : St w bf bg F G w) (h : bf ≠ bg) (j : Nat) :
    St w bf bg (F.set j 0) (G.set j 0) ((w.setCell ⟨bf, j, none⟩ (.int .i64 0)).setCell ⟨bg, j, none⟩ (.int .i64 0)).drew := by
  have a : St w bf bg (F.set j 0) (G.set j 0) ((w.setCell ⟨bf, j, none⟩ (.int .i64 0)).setCell ⟨bg, j, none⟩ (.int .i64 0)) :=
    (S.stepF h 0 j 0).stepG h 0 j 0
  exact ⟨a.hf, a.hg, a.touch.drew⟩

theorem outer_go {A B : List Int} {od : Bool} {delta n off : Int} {c d : Nat} {F G F1 G1 : List Int} (h1 : inner A B off d (chkF od delta n off d G) (d + 1) (-(d : Int)) F = (F1, none))
    (h2 : inner A.reverse B.reverse off d (chkB od delta n off d F1) (d + 1) (-(d : Int)) G = (G1, none)) : outer A B od delta n off (c + 1) d F G = outer A B od delta n off c ((d + 1 : Nat) : Int) F1 G1 := by
  have e : ((d : Int)).toNat = d := by omega
  rw [outer, e, h1]
  simp only [h2]
  rfl

theorem outer_first {A B : List Int} {od : Bool} {delta n off : Int} {c d : Nat} {F G F1 : List Int} {k s : Int} (h1 : inner A B off d (chkF od delta n off d G) (d + 1) (-(d : Int)) F = (F1, some (k, s))) :
    outer A B od delta n off (c + 1) d F G = some (true, k, s, F1, G) := by
  have e : ((d : Int)).toNat = d := by omega
  rw [outer, e, h1]

theorem outer_second {A B : List Int} {od : Bool} {delta n off : Int} {c d : Nat} {F G F1 G1 : List Int} {k s : Int} (h1 : inner A B off d (chkF od delta n off d G) (d + 1) (-(d : Int)) F = (F1, none))
    (h2 : inner A.reverse B.reverse off d (chkB od delta n off d F1) (d + 1) (-(d : Int)) G = (G1, some (k, s))) : outer A B od delta n off (c + 1) d F G = some (false, k, s, F1, G1) := by
  have e : ((d : Int)).toNat = d := by omega
  rw [outer, e, h1]
  simp only [h2]

theorem prev_all {A B : List Int} {off d : Nat} {chk : Int → Int → Bool} {F F1 : List Int} (P : Prev (mtL A B) off d F) (ho : d ≤ off) (hl : off + d < F.length) (h : inner A B off d chk (d + 1) (-(d : Int)) F = (F1, none)) :
    Prev (mtL A B) off ((d : Int) + 1) F1 ∧ F1.length = F.length := by
  have sF := inner_spec (A := A) (B := B) (off := off) (d := d) (chk := chk) (by omega) (d + 1) (-(d : Int)) F (by omega) (by omega) (by omega) (by omega) P (fun k' a b _ => by omega)
  have lF := inner_length A B off d chk (d + 1) (-(d : Int)) F
  rw [h] at sF lF
  exact ⟨prev_next (by omega) fun k a b p => (sF.1 rfl k a b p).1, lF⟩

theorem odd_of (n m : Int) : (((n - m).tmod 2) != 0) = decide ((n - m) % 2 ≠ 0) := by
  have h : (n - m).tmod 2 = 0 ↔ (n - m) % 2 = 0 := by
    rw [Int.tmod_eq_emod]
    split <;> omega
  by_cases c : (n - m) % 2 = 0
  · have := h.2 c
    simp [c, this]
  · have : ¬ (n - m).tmod 2 = 0 := fun e => c (h.1 e)
    simp [c, this]

theorem prev_first (A B : List Int) (off : Nat) (F : List Int) (h : off + 1 < F.length) : Prev (mtL A B) off 0 (F.set (off + 1) 0) := by
  refine ⟨fun _ => ?_, fun k a b _ => by omega⟩
  have e : off + 1 = ((off : Int) + 1).toNat := by omega
  rw [e]
  exact tb_set_same 0 (by omega)

set_option maxRecDepth 100000 in
set_option maxHeartbeats 4000000 in
theorem snake_any (w : World) (A B F G : List Int) (bc bf bg ba pa bb pb aLo bLo aHi bHi la lb ca cb cf cg : Nat) (oa ob : Option Addr)
    (H : Handed w A B bc bf bg ba pa bb pb aLo bLo la lb ca cb F.length G.length cf cg oa ob)
    (S0 : St w bf bg F G w) (half off : Nat) (hhalf : half = (A.length + B.length + 1) / 2) (hoff : off = F.length / 2)
    (haHi : aHi = aLo + A.length) (hbHi : bHi = bLo + B.length)
    (ho : half ≤ off) (hF : off + half + 1 < F.length) (hG : off + half + 1 < G.length)
    (R : Bool × Int × Int × List Int × List Int)
    (hR : outer A B (decide (((A.length : Int) - B.length) % 2 ≠ 0)) ((A.length : Int) - B.length) A.length off (half + 1) 0 (F.set (off + 1) 0) (G.set (off + 1) 0) = some R) :
    Calls Try.prog 11 #[.pointer (some ⟨bc, 0, none⟩), .int .i64 aLo, .int .i64 aHi, .int .i64 bLo, .int .i64 bHi] w fun e w' => e = .returned (ans aLo bLo aHi bHi A B R) ∧ St w bf bg R.2.2.2.1 R.2.2.2.2 w' := by
  have c0 := H.c0
  have c1 := H.c1
  have c4 := H.c4
  have c5 := H.c5
  obtain ⟨od, hod⟩ : ∃ od : Bool, decide (((A.length : Int) - B.length) % 2 ≠ 0) = od := ⟨_, rfl⟩
  rw [hod] at hR
  have HR := hide hR
  have HH := hide H
  have HS := hide S0
  have l1 := H.la1
  have l2 := H.lb1
  have l3 := H.lf1
  have l4 := H.lg1
  have l5 := H.hla
  have l6 := H.hlb
  have fg := H.fg
  have gf' := fg.symm
  obtain ⟨xf, hxf⟩ : ∃ x, w.cell? ⟨bf, off + 1, none⟩ = some (.int .i64 x) := ⟨_, ints_cell S0.hf _ (by omega)⟩
  obtain ⟨xg, hxg⟩ : ∃ x, w.cell? ⟨bg, off + 1, none⟩ = some (.int .i64 x) := ⟨_, ints_cell S0.hg _ (by omega)⟩
  have ff := ints_free S0.hf (off + 1)
  have gf := ints_free S0.hg (off + 1)
  have Hh := hide hhalf
  have Ho := hide hoff
  have Ha := hide haHi
  have Hb := hide hbHi
  have h2 : 2 * half ≤ A.length + B.length + 1 := by omega
  have h3 : A.length + B.length ≤ 2 * half := by omega
  have h4 : aLo + A.length ≤ aHi := by omega
  have h5 : aHi ≤ aLo + A.length := by omega
  have h6 : bLo + B.length ≤ bHi := by omega
  have h7 : bHi ≤ bLo + B.length := by omega
  have h8 : half ≤ 5000 := by omega
  have eo : (F.length : Int) / 2 = off := by omega
  have Hod := hide hod
  clear hR H S0 hhalf hoff haHi hbHi hod
  go_enter Try.func11, Try.ntmps11
  go_wp2_with fail
  go_cut [14, 15, 16, 17, 18] (fun s14 s15 s16 s17 s18 wx => s14 = .int .i64 A.length ∧ s15 = .int .i64 B.length ∧ s16 = .int .i64 ((A.length : Int) - B.length) ∧ s17 = .bool od ∧ s18 = .int .i64 off ∧ St w bf bg (F.set (off + 1) 0) (G.set (off + 1) 0) wx)
  case first =>
    go_region
    all_goals
      go_wp2
      go_meet
      case rel =>
        go_light
        have S := unhide HS
        have e1 : (aHi : Int) - aLo = A.length := by omega
        have e2 : (bHi : Int) - bLo = B.length := by omega
        rw [e1, e2, odd_of, unhide Hod]
        exact ⟨rfl, rfl, rfl, rfl, rfl, S.first fg (off + 1)⟩
  case rest =>
    obtain ⟨rfl, rfl, rfl, rfl, rfl, S1⟩ := hcut
    have Pd := hide (And.intro (prev_first A B off F (by omega)) (prev_first A.reverse B.reverse off G (by omega)))
    have HS1 := hide S1
    clear S1
    go_wp2
    go_loopg [19] (half + 1) (fun g s19 wr => ∃ (d : Nat) (F1 G1 : List Int), s19 = .int .i64 d ∧ g + d = half + 1 ∧ F1.length = F.length ∧ G1.length = G.length ∧ Prev (mtL A B) off d F1 ∧ Prev (mtL A.reverse B.reverse) off d G1 ∧ outer A B od ((A.length : Int) - B.length) A.length off g d F1 G1 = some R ∧ St w bf bg F1 G1 wr)
    case atStart =>
      exact ⟨0, _, _, rfl, rfl, List.length_set, List.length_set, (unhide Pd).1, (unhide Pd).2, unhide HR, unhide HS1⟩
    case round =>
      obtain ⟨d, F1, G1, rfl, hg, lF1, lG1, P1, P2, ho1, S2⟩ := hrel
      obtain ⟨c, hc⟩ : ∃ c, gk = c + 1 := by
        cases gk with
        | zero => simp [outer] at ho1
        | succ c => exact ⟨c, rfl⟩
      subst hc
      have hd : d ≤ half := by omega
      have hdi : (d : Int) ≤ ((A.length : Int) + B.length + 1) / 2 := by have := unhide Hh; omega
      have Hg := hide hg
      have HP1 := hide P1
      have HP2 := hide P2
      have Ho1 := hide ho1
      have HS2 := hide S2
      have HlF := hide lF1
      have HlG := hide lG1
      clear hg P1 P2 ho1 S2 lF1 lG1
      go_upto_block 2 with fail
      refine loop1 (half := half) (unhide HH) (unhide HS2) (unhide HlF) (unhide HlG) (unhide HP1) (unhide HP2) (unhide Hod) hd h8 ho hF hG ?_ ?_
      · intro F2 hin u10 u11 u12 u13 u20 u21 u22 u23 u24 u73 u74 u75 u76 u77 u78 u79 u80 u81 u82 u83 u84 u85 u86 u87 u88 u89 u90 u91 u92 u93 u94 u95 u96 u97 u98 u99 u100 u101 u102 u103 u104 u105 u106 u107 u108 u109 u110 u111 u112 u113 u114 u115 u116 u117 u118 u119 u120 u121 u122 u123 u124 u125 u126 u127 u128 u129 u130 u131 u132 u133 u134 u135 u136 u137 u138 u139 u140 u141 u142 u143 u144 u145 u146 u147 u148 u149 u150 u151 u152 u153 u154 u155 u156 u157 u158 u159 u160 u161 u162 u163 u164 u165 u166 u167 u168 u169 u170 u171 u172 u173 u174 u175 u176 u177 u178 wx S3
        dsimp only
        have pa := prev_all (unhide HP1) (by omega) (by rw [unhide HlF]; omega) hin
        have Hpa := hide pa
        have Hin := hide hin
        have HS3 := hide S3
        clear pa hin S3
        go_upto_block 6 with fail
        refine loop2 (half := half) (unhide Ha) (unhide Hb) (unhide HH) (unhide HS3) ((unhide Hpa).2.trans (unhide HlF)) (unhide HlG) (unhide HP2) (unhide Hpa).1 (unhide Hod) hd h8 ho hF hG ?_ ?_
        · intro G2 hin2 u10 u11 u12 u13 u25 u26 u27 u28 u29 u181 u182 u183 u184 u185 u186 u187 u188 u189 u190 u191 u192 u193 u194 u195 u196 u197 u198 u199 u200 u201 u202 u203 u204 u205 u206 u207 u208 u209 u210 u211 u212 u213 u214 u215 u216 u217 u218 u219 u220 u221 u222 u223 u224 u225 u226 u227 u228 u229 u230 u231 u232 u233 u234 u235 u236 u237 u238 u239 u240 u241 u242 u243 u244 u245 u246 u247 u248 u249 u250 u251 u252 u253 u254 u255 u256 u257 u258 u259 u260 u261 u262 u263 u264 u265 u266 u267 u268 u269 u270 u271 u272 u273 u274 u275 u276 u277 u278 u279 u280 u281 u282 u283 u284 u285 u286 u287 wy S4
          dsimp only
          have pb' := prev_all (unhide HP2) (by omega) (by rw [unhide HlG]; omega) hin2
          have Hpb := hide pb'
          have Hin2 := hide hin2
          have HS4 := hide S4
          clear pb' hin2 S4
          go_wp2_with fail
          go_roundg c
          case measure => omega
          case rel =>
            go_light
            have e := unhide Ho1
            rw [outer_go (unhide Hin) (unhide Hin2)] at e
            exact ⟨d + 1, F2, G2, by go_num, by have := unhide Hg; omega, (unhide Hpa).2.trans (unhide HlF), (unhide Hpb).2.trans (unhide HlG), (unhide Hpa).1, (unhide Hpb).1, e, unhide HS4⟩
        · intro G2 k s hin2 u25 u26 u27 u28 u29 u181 u182 u183 u184 u185 u186 u187 u188 u189 u190 u191 u192 u193 u194 u195 u196 u197 u198 u199 u200 u201 u202 u203 u204 u205 u206 u207 u208 u209 u210 u211 u212 u213 u214 u215 u216 u217 u218 u219 u220 u221 u222 u223 u224 u225 u226 u227 u228 u229 u230 u231 u232 u233 u234 u235 u236 u237 u238 u239 u240 u241 u242 u243 u244 u245 u246 u247 u248 u249 u250 u251 u252 u253 u254 u255 u256 u257 u258 u259 u260 u261 u262 u263 u264 u265 u266 u267 u268 u269 u270 u271 u272 u273 u274 u275 u276 u277 u278 u279 u280 u281 u282 u283 u284 u285 u286 u287 wy S4
          dsimp only
          have e := unhide Ho1
          rw [outer_second (unhide Hin) hin2] at e
          have eR := (Option.some.inj e).symm
          have HeR := hide eR
          have HS4 := hide S4
          clear e eR hin2 S4
          go_wp2_with fail
          refine bodyPost_ret (v := ans aLo bLo aHi bHi A B (false, k, s, F2, G2)) (by simp [ans, results, Try.results11, go_sem]) rfl ⟨?_, ?_⟩
          · rw [unhide HeR]
          · rw [unhide HeR]; exact unhide HS4
      · intro F2 k s hin u20 u21 u22 u23 u24 u73 u74 u75 u76 u77 u78 u79 u80 u81 u82 u83 u84 u85 u86 u87 u88 u89 u90 u91 u92 u93 u94 u95 u96 u97 u98 u99 u100 u101 u102 u103 u104 u105 u106 u107 u108 u109 u110 u111 u112 u113 u114 u115 u116 u117 u118 u119 u120 u121 u122 u123 u124 u125 u126 u127 u128 u129 u130 u131 u132 u133 u134 u135 u136 u137 u138 u139 u140 u141 u142 u143 u144 u145 u146 u147 u148 u149 u150 u151 u152 u153 u154 u155 u156 u157 u158 u159 u160 u161 u162 u163 u164 u165 u166 u167 u168 u169 u170 u171 u172 u173 u174 u175 u176 u177 u178 wx S3
        dsimp only
        have e := unhide Ho1
        rw [outer_first hin] at e
        have eR := (Option.some.inj e).symm
        have HeR := hide eR
        have HS3 := hide S3
        clear e eR hin S3
        go_wp2_with fail
        refine bodyPost_ret (v := ans aLo bLo aHi bHi A B (true, k, s, F2, G1)) (by simp [ans, results, Try.results11, go_sem]) rfl ⟨?_, ?_⟩
        · rw [unhide HeR]
        · rw [unhide HeR]; exact unhide HS3
end Go.Proofs.Qxb6617690a
