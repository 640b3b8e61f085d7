/- prune, whole: at a new cell. -/
import Derived.Test.Qxb6614855aDoorP7
import Derived.Test.Qxb6614855aDoorP8b
import Derived.Test.Qxb6614855aDoorP8c
namespace Go.Proofs.Qxb6614855aDoor
open Go.RowKit

/-- What prune makes of a new cell. -/
def doneF (f : Nat → Value) : Nat → Value := upd (cornF (onF f (cnt 16)) 16) 198 (.float .f64 (acc 4))

theorem onF_zero (f : Nat → Value) (h : ∀ j, 102 ≤ j → j < 198 → f j = .int .i16 0) : onF f (cnt 0) = f := by
  funext j
  unfold onF
  split
  · rename_i c; rw [h j c.1 c.2]; rfl
  · rfl

theorem Keep.alloc {b : Nat} {w0 w : World} (h : Keep b w0 w) (o : Obj) : Keep b w0 (w.alloc o) :=
  h.below ((Below.refl _ _).alloc h.size o)

theorem TabAt.keep {b t : Nat} {tab} {w0 w : World} (h : TabAt t tab w0) (hk : Keep b w0 w) (hne : t ≠ b) (hlt : t < w0.heap.size) : TabAt t tab w :=
  fun i hi => (World.cell?_of_block (w := w0) (hk.block t hlt hne)).trans (h i hi)

theorem slice_nil (W : World) : (Instr.slice 33 (.slice none 0 0) none (some (.int .i64 0)) none).run Tryd.prog W = .ok (.slice none 0 0) W := by kernel_rfl

set_option maxRecDepth 100000 in
set_option maxHeartbeats 8000000 in
theorem prune_any {w : World} {b3 bv bp cap : Nat} {f : Nat → Value} (h4 : f 4 = .slice (some ⟨bp, 0, none⟩) 8 16) (h5 : f 5 = .slice (some ⟨bv, 0, none⟩) 16 cap)
    (hz6 : ∀ j, 6 ≤ j → j < 22 → f j = .int .i32 0) (hz : ∀ j, 22 ≤ j → j < 102 → f j = .float .f64 0) (hzo : ∀ j, 102 ≤ j → j < 198 → f j = .int .i16 0) (h199 : f 199 = .slice none 0 0)
    (hrow : w.heap[b3]? = some (rowObj (lay f) 36)) (hV : Corners bv w) (hF : ∀ i, w.frozen? ⟨bv, i, none⟩ = false) (hne : bv ≠ b3) (hvl : bv < w.heap.size)
    (hT : TabAt 0 Lib.deBruijn32tab w) (hb : 0 < b3) :
    Calls Tryd.prog 29 #[.pointer (some ⟨b3, 0, none⟩), .bool false, .int .u16 65535, .int .i64 0] w fun e w' => (∃ v, e = .returned v) ∧ w'.heap[b3]? = some (rowObj (lay (doneF f)) 36) ∧ Keep b3 w w' := by
  have hlt := lt_of_heap hrow
  have HP := hide (And.intro hz6 (And.intro hz (And.intro hzo h199)))
  have H45 := hide (And.intro h4 h5)
  obtain ⟨W0, eW0⟩ : ∃ W0, W0 = w.alloc (.cells #[Value.int .u32 0, Value.int .u32 0, Value.int .u32 0] 56) := ⟨_, rfl⟩
  have k0 : Keep b3 w W0 := by rw [eW0]; exact (Keep.refl _ _).alloc _
  have r0 : W0.heap[b3]? = some (rowObj (lay f) 36) := by rw [eW0, Below.heap_alloc _ _ _ hlt]; exact hrow
  have HR0 := hide r0
  have HK0 := hide (And.intro k0 (And.intro hV (And.intro hF hT)))
  obtain ⟨Z, eZ⟩ : ∃ Z, Z = (List.replicate 96 (Value.int .i16 0)).toArray := ⟨_, rfl⟩
  have hb32 : ∀ w, (Instr.build 32 #[]).run Tryd.prog w = .ok (.agg Z) w := by rw [eZ]; exact build32
  have HB32 := hide hb32
  have EZ := hide eZ
  obtain ⟨Y, eY⟩ : ∃ Y, Y = (List.replicate 16 (Value.int .i32 0)).toArray := ⟨_, rfl⟩
  have hb26 : ∀ w, (Instr.build 26 #[]).run Tryd.prog w = .ok (.agg Y) w := by rw [eY]; exact build26
  have HB26 := hide hb26
  have EY := hide eY
  obtain ⟨R, eR⟩ : ∃ R, R = (List.replicate 16 (Value.float .f64 (acc 4))).toArray := ⟨_, rfl⟩
  have ER := hide eR
  clear k0 r0 hz6 hz hzo h199 h4 h5 hrow hV hF hT hb32 eZ hb26 eY eR
  go_enter Tryd.func29, Tryd.ntmps29
  go_upto_region 1 with fail
  rw [← eW0]
  clear eW0
  go_upto_block 0 with (first | (with_reducible refine build_zero (unhide HB32 _) ?_) | ((with_reducible refine store_same (T := 32) (b3 := b3) (o := 102) (n := 96) (z := .int .i16 0) (f := f) ?hx ?hy (unhide EZ) rfl size32 (by omega) (unhide HR0) (unhide HP).2.2.1 ?_); (case hx => rfl); (case hy => rfl); intro wS hS; have c5 := row_cell hS.1 5 _ (lay_at f (by omega)); rw [(unhide H45).2] at c5))
  have kS := (unhide HK0).1.trans hS.2
  refine countLoop (f := f) (unhide H45).2 (by rw [onF_zero f (unhide HP).2.2.1]; exact hS.1) ((unhide HK0).2.1.keep kS hne hvl) hne (by have := kS.size; omega) (TabAt.keep (unhide HK0).2.2.2 kS (by omega) (by omega)) hb (by have := kS.size; omega) ?_
  intro u9 u10 u11 u12 u13 u38 u39 u40 u41 u42 u43 u44 u45 u46 u47 u48 u49 u50 u51 u52 u53 u54 u55 u56 u57 u58 u59 u60 u61 u62 u63 u64 u65 u66 u67 u68 u69 u70 u71 u72 u73 u74 u75 u76 u77 u78 u79 u80 u81 u82 u83 u84 u85 u86 u87 u88 u89 u90 u91 u92 u93 u94 u95 u96 wx hx
  have kx := kS.trans hx.2
  have HX := hide (And.intro hx.1 kx)
  clear hx kx kS hS c5
  dsimp only
  go_upto_region 22 with fail
  obtain ⟨W1, eW1⟩ : ∃ W1, W1 = wx.alloc (.cells #[Value.int .u32 0, Value.int .u32 0, Value.int .u32 0] 56) := ⟨_, rfl⟩
  have rx := (unhide HX).1
  have lx := lt_of_heap rx
  have r1 : W1.heap[b3]? = some (rowObj (lay (onF f (cnt 16))) 36) := by rw [eW1, Below.heap_alloc _ _ _ lx]; exact rx
  have k1 : Keep b3 w W1 := by rw [eW1]; exact (unhide HX).2.alloc _
  have g1 : ∀ i, i < 3 → W1.cell? ⟨wx.heap.size, i, none⟩ = some (.int .u32 0) := by
    intro i hi
    rw [eW1, cell_of_row _ _ _ _ _ _ (heap_alloc_last wx _)]
    match i, hi with
    | 0, _ => rfl
    | 1, _ => rfl
    | 2, _ => rfl
  have z1 : wx.heap.size < W1.heap.size := by rw [eW1]; simp
  have c4 := row_cell r1 4 _ (lay_at _ (by omega))
  have e4 : onF f (cnt 16) 4 = .slice (some ⟨bp, 0, none⟩) 8 16 := by unfold onF; rw [if_neg (by omega)]; exact (unhide H45).1
  rw [e4] at c4
  have e5 : onF f (cnt 16) 5 = .slice (some ⟨bv, 0, none⟩) 16 cap := by unfold onF; rw [if_neg (by omega)]; exact (unhide H45).2
  obtain ⟨bg, ebg⟩ : ∃ bg, bg = wx.heap.size := ⟨_, rfl⟩
  rw [← ebg] at g1 z1 lx
  rw [← eW1, ← ebg]
  have e6 : ∀ j, 6 ≤ j → j < 22 → onF f (cnt 16) j = .int .i32 0 := by intro j h1 h2; unfold onF; rw [if_neg (by omega)]; exact (unhide HP).1 j h1 h2
  have e22 : ∀ j, 22 ≤ j → j < 102 → onF f (cnt 16) j = .float .f64 0 := by intro j h1 h2; unfold onF; rw [if_neg (by omega)]; exact (unhide HP).2.1 j h1 h2
  have e199 : onF f (cnt 16) 199 = .slice none 0 0 := by unfold onF; rw [if_neg (by omega)]; exact (unhide HP).2.2.2
  obtain ⟨F, eF⟩ : ∃ F, F = onF f (cnt 16) := ⟨_, rfl⟩
  rw [← eF] at r1 e4 e5 e6 e22 e199
  have EF := hide eF
  have H1 := hide (And.intro r1 (And.intro k1 g1))
  have HE := hide (And.intro e4 (And.intro e5 (And.intro e6 (And.intro e22 e199))))
  clear HX rx r1 k1 g1 e4 e5 e6 e22 e199 eF eW1 ebg
  go_upto_block 8 with fail
  refine planesLoop c4 ?_
  intro u97 u98 u99 u100 u101 u102 u103 u104 u105 u106 u107 u108 u109 u110 u111 u112 u113 u114 u115 u116 u117 u118 u119 u120 u121 u122 u123 u124 u125 u126 u127 u128 u129 u130 u131 u132 u133 u134 u135 u136 u137 u138 u139 u140 u141 u142 u143 u144 u145 u146 u147 u148 u149 u150 u151 u152 u153 u154 u155 u156 u157 u158 u159
  dsimp only
  go_upto_block 10 with (first | (with_reducible refine build_zero (unhide HB26 _) ?_) | ((with_reducible refine store_same (T := 26) (b3 := b3) (o := 6) (n := 16) (z := .int .i32 0) (f := F) ?hx ?hy (unhide EY) rfl size26 (by omega) (unhide H1).1 (unhide HE).2.2.1 ?_); (case hx => rfl); (case hy => rfl); intro wS hS))
  have k2 := (unhide H1).2.1.trans hS.2
  have H2 := hide (And.intro hS.1 (And.intro k2 ((Keep.refl b3 W1).trans hS.2)))
  clear hS k2 c4
  refine clearLoop (f := F) (unhide H2).1 (unhide HE).2.2.2.1 ?_
  intro u16 u165 u166 u167 u168 u169 u170 u171 u172 u173 u174 u175 u176 u177 u178 u179 u180 u181 u182 u183 wc hc
  have k3 := (unhide H2).2.1.trans hc.2
  have k3' := (unhide H2).2.2.trans hc.2
  have c5 := row_cell hc.1 5 _ (lay_at _ (by omega))
  rw [(unhide HE).2.1] at c5
  have H3 := hide (And.intro hc.1 (And.intro k3 k3'))
  clear hc k3 k3'
  dsimp only
  go_upto_block 12 with fail
  refine orthLoop (f := F) (bg := bg) (unhide HE).2.1 (unhide HE).2.2.1 (unhide HE).2.2.2.1 (unhide H3).1 ((unhide HK0).2.1.keep (unhide H3).2.1 hne hvl) (fun i => (World.frozen?_of_block (w := w) ((unhide H3).2.1.block bv hvl hne)).trans ((unhide HK0).2.2.1 i)) (fun i hi => (World.cell?_of_block (w := W1) ((unhide H3).2.2.block bg z1 (by omega))).trans ((unhide H1).2.2 i hi)) hne (by have := (unhide H3).2.1.size; omega) (by omega) (by have := (unhide H3).2.2.size; omega) ?_
  intro u17 u18 u19 u20 u21 u190 u191 u192 u193 u194 u195 u196 u197 u198 u199 u200 u201 u202 u203 u204 u205 u206 u207 u208 u209 u210 u211 u212 u213 u214 u215 u216 u217 u218 u219 u220 u221 u222 u223 u224 u225 u226 u227 u228 u229 u230 u231 u232 u233 u234 u235 u236 u237 u238 u239 u240 u241 u242 u243 u244 u245 u246 u247 u248 u249 u250 u251 u252 u253 u254 u255 u256 u257 u258 u259 u260 u261 u262 u263 u264 u265 u266 u267 u268 u269 u270 u271 u272 u273 u274 u275 u276 u277 u278 u279 u280 u281 u282 u283 u284 u285 u286 u287 wo ho
  have k4 := (unhide H3).2.1.trans ho.2
  have r4 := ho.1
  have c198 := row_cell r4 198 _ (lay_at _ (by omega))
  have f198 := row_free r4 198
  have s198 := row_set r4 198 (.float .f64 0)
  rw [lay_set _ (by omega)] at s198
  obtain ⟨G, eG⟩ : ∃ G, G = cornF F 16 := ⟨_, rfl⟩
  rw [← eG] at r4 c198 s198
  have eR : ∀ j, 86 ≤ j → j < 86 + 16 → upd G 198 (.float .f64 0) j = .float .f64 (acc 4) := by
    intro j h1 h2
    rw [eG]
    unfold upd cornF
    rw [if_neg (by omega), if_neg (by omega), if_neg (by omega), if_pos (by omega)]
  have e4' : G 4 = .slice (some ⟨bp, 0, none⟩) 8 16 := by rw [eG, cornF_other _ _ _ (by omega) (by omega) (by omega)]; exact (unhide HE).1
  have e199' : G 199 = .slice none 0 0 := by rw [eG, cornF_other _ _ _ (by omega) (by omega) (by omega)]; exact (unhide HE).2.2.2.2
  have EG := hide eG
  have HRR := hide eR
  have H4 := hide (And.intro s198 (And.intro (k4.set 198 (.float .f64 0)) (And.intro e4' e199')))
  obtain ⟨x198, ex⟩ : ∃ x, x = G 198 := ⟨_, rfl⟩
  rw [← ex] at c198
  have hsf := sf
  clear k4 r4 s198 ho eG eR e4' e199' c5 ex
  dsimp only
  go_upto_region 57 with fail
  obtain ⟨W4, eW4⟩ : ∃ W4, W4 = wo.setCell ⟨b3, 198, none⟩ (.float .f64 0) := ⟨_, rfl⟩
  rw [← eW4] at H4 ⊢
  clear eW4 c198 f198
  go_upto_block 18 with ((with_reducible refine load_same (T := 30) (b3 := b3) (o := 86) (n := 16) (z := .float .f64 (acc 4)) (f := upd G 198 (.float .f64 0)) ?hx (unhide ER) Tryd.underlying30 rfl size30 (by omega) (unhide H4).1 (unhide HRR) ?_); (case hx => rfl))
  refine reachLoop (f := G) (unhide ER) (unhide H4).1 ?_
  intro u23 u296 u297 u298 u299 u300 u301 u302 u303 u304 u305 u306 u307 wr hr
  have k5 := (unhide H4).2.1.trans hr.2
  have r5 := hr.1
  have c199 := row_cell r5 199 _ (lay_at _ (by omega))
  have c4 := row_cell r5 4 _ (lay_at _ (by omega))
  have f199 := row_free r5 199
  have u199 : upd G 198 (.float .f64 (rea 16)) 199 = .slice none 0 0 := by unfold upd; rw [if_neg (by omega)]; exact (unhide H4).2.2.2
  have u4 : upd G 198 (.float .f64 (rea 16)) 4 = .slice (some ⟨bp, 0, none⟩) 8 16 := by unfold upd; rw [if_neg (by omega)]; exact (unhide H4).2.2.1
  rw [u199] at c199
  rw [u4] at c4
  have s199 := same_store r5 (by omega) u199
  have H5 := hide (And.intro s199 (k5.set 199 (.slice none 0 0)))
  clear k5 r5 u199 u4 s199 hr
  have hsn := slice_nil
  dsimp only
  go_upto_region 63 with fail
  obtain ⟨W5, eW5⟩ : ∃ W5, W5 = wr.setCell ⟨b3, 199, none⟩ (.slice none 0 0) := ⟨_, rfl⟩
  have c4' : W5.cell? ⟨b3, 4, none⟩ = some (.slice (some ⟨bp, 0, none⟩) 8 16) := by
    have := row_cell (unhide H5).1 4 _ (lay_at _ (by omega))
    rw [eW5, this]
    unfold upd
    rw [if_neg (by omega)]
    exact congrArg some (unhide H4).2.2.1
  rw [← eW5] at H5 ⊢
  clear eW5 c4 c199 f199
  go_upto_block 20 with fail
  refine lastLoop ?_
  intro u25 u323 u324 u325 u326 u327 u328 u329 u330 u331 u332 u333 u334 u335 u336 u337 u338 u339 u340 u341 u342 u343 u344 u345 u346 u347 u348 u349 u350 u351 u352 u353 u354 u355
  have fin : upd G 198 (.float .f64 (rea 16)) = doneF f := by rw [unhide EG, unhide EF]; rfl
  rw [fin] at H5
  dsimp only
  go_end0
  exact ⟨⟨_, rfl⟩, (unhide H5).1, (unhide H5).2⟩

end Go.Proofs.Qxb6614855aDoor
