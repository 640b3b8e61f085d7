/- The regions that draw their order, one by one (typed by gen/hr.py). -/
import Derived.Test.Qxb6614855aDoorHL
namespace Go.Proofs.Qxb6614855aDoor
open Go.RowKit

set_option maxRecDepth 20000 in
set_option maxHeartbeats 2000000 in
theorem reg_f3_2 {K : Act → World → Prop} {Q : Exit → Act → World → Prop} {a : Act} {w : World} {S : World → Prop} {P1 P3 L36_3 L23_1 V29 : Value} (hsz : a.tmps.size = 222) (e1 : a.eval (.tmp 1) = P1) (e3 : a.eval (.tmp 3) = P3)
    (hd : ∀ w, S w → S w.drew) (l36_3 : ∀ w, S w → (Instr.loadAt 36 P3).run Tryd.prog w = .ok L36_3 w) (l23_1 : ∀ w, S w → (Instr.loadAt 23 P1).run Tryd.prog w = .ok L23_1 w) (c29 : ∀ w, S w → Calls Tryd.prog 6 #[L36_3] w fun e w' => e = .returned V29 ∧ S w') (g31 : ∀ w, (eqGuard .neq 23 (.tmp 29) (.tmp 30) V29 L23_1).run Tryd.prog w = .ok () w) (b31 : ∀ w, (binOp .neq 23 V29 L23_1).run Tryd.prog w = .ok (Value.bool false) w)
    (hS : S w) (hK : ∀ w', S w' → K ((((a.put (some 28) L36_3).put (some 30) L23_1).put (some 29) V29).put (some 31) (Value.bool false)) w') : Code.wp Tryd.prog (sub4 [1, 1, 0, 0] (Tryd.f3.body.getD .skip)) (Exit.then K Q) a w := by
  conv => arg 2; whnf
  refine wp_region_noPanic ?_
  refine wp_region_held_drew (S := S) (by kernel_rfl) (hd _ hS) (fun hS => ?_)
  refine wpAnyH_take (i := 0) (oi := { dst := some 28, op := Op.load 36 (Operand.tmp 3), type := 36, pos := "laws_root_b1.go:47", after := #[], guard := none }) (v := L36_3) rfl (by kernel_rfl) (by kernel_rfl) (by kernel_rfl) (fun _ _ _ h => h) (y_load rfl e3 l36_3) hS ?_
  show wpAnyH _ _ _ _ _ _ _ (a.put (some 28) L36_3) _
  refine wpAnyH_take (i := 2) (oi := { dst := some 30, op := Op.load 23 (Operand.tmp 1), type := 23, pos := "laws_root_b1.go:47", after := #[], guard := none }) (v := L23_1) rfl (by kernel_rfl) (by kernel_rfl) (by kernel_rfl) (fun _ _ _ h => h) (y_load rfl ((Act.eval_put_ne _ 28 1 _ (by decide)).trans e1) l23_1) hS ?_
  show wpAnyH _ _ _ _ _ _ _ ((a.put (some 28) L36_3).put (some 30) L23_1) _
  refine readyH_one (i := 1) (o := { dst := some 29, op := Op.call { callee := Callee.value (Operand.func 6), args := #[Operand.tmp 28], argTypes := #[36] }, type := 23, pos := "laws_root_b1.go:47", after := #[{ on := 0, ground := Ground.data }], guard := none }) (by kernel_rfl) rfl rfl (fun K' hK' => ?_)
  refine c_call (S := S) (vals := #[L36_3]) (v := V29) (fun _ => by rfl) (map1 ((Act.eval_put_ne _ 30 28 _ (by decide)).trans (Act.eval_put_same _ 28 _ (by omega : 28 < a.tmps.size)))) (c29 _ hS) (fun w1 hS1 => hK' _ _ hS1 ?_)
  clear hK' K'
  show wpAnyH _ _ _ _ _ _ _ (((a.put (some 28) L36_3).put (some 30) L23_1).put (some 29) V29) _
  refine wpAnyH_take (i := 3) (oi := { dst := some 31, op := Op.binOp BinOp.neq 23 (Operand.tmp 29) (Operand.tmp 30) 23, type := 4, pos := "laws_root_b1.go:47", after := #[{ on := 1, ground := Ground.data }, { on := 2, ground := Ground.data }], guard := none }) (v := (Value.bool false)) rfl (by kernel_rfl) (by kernel_rfl) (by kernel_rfl) (fun _ _ _ h => h) (y_bin rfl (Act.eval_put_same _ 29 _ (lt_put (lt_put (by omega : 29 < a.tmps.size)))) ((Act.eval_put_ne _ 29 30 _ (by decide)).trans (Act.eval_put_same _ 30 _ (lt_put (by omega : 30 < a.tmps.size)))) g31 b31) hS1 ?_
  show wpAnyH _ _ _ _ _ _ _ ((((a.put (some 28) L36_3).put (some 30) L23_1).put (some 29) V29).put (some 31) (Value.bool false)) _
  refine wpAnyH_done (by kernel_rfl) ?_ _
  exact NoPanic.normal (hK _ hS1)

set_option maxRecDepth 20000 in
set_option maxHeartbeats 2000000 in
theorem reg_f3_30 {K : Act → World → Prop} {Q : Exit → Act → World → Prop} {a : Act} {w : World} {S : World → Prop} {P3 P5 P9 L36_3 L42_9 V83 : Value} (hsz : a.tmps.size = 222) (e3 : a.eval (.tmp 3) = P3) (e5 : a.eval (.tmp 5) = P5) (e9 : a.eval (.tmp 9) = P9)
    (hd : ∀ w, S w → S w.drew) (l36_3 : ∀ w, S w → (Instr.loadAt 36 P3).run Tryd.prog w = .ok L36_3 w) (l42_9 : ∀ w, S w → (Instr.loadAt 42 P9).run Tryd.prog w = .ok L42_9 w) (c83 : ∀ w, S w → Calls Tryd.prog 9 #[L36_3, P5] w fun e w' => e = .returned V83 ∧ S w') (g85 : ∀ w, (eqGuard .neq 42 (.tmp 83) (.tmp 84) V83 L42_9).run Tryd.prog w = .ok () w) (b85 : ∀ w, (binOp .neq 42 V83 L42_9).run Tryd.prog w = .ok (Value.bool false) w)
    (hS : S w) (hK : ∀ w', S w' → K (((((a.put (some 81) L36_3).put (some 82) P5).put (some 84) L42_9).put (some 83) V83).put (some 85) (Value.bool false)) w') : Code.wp Tryd.prog (sub4 [1, 1, 1, 1, 1, 0, 1, 2, 3, 1, 0, 2, 1, 1, 1, 1, 1, 1, 1, 0, 0] (Tryd.f3.body.getD .skip)) (Exit.then K Q) a w := by
  conv => arg 2; whnf
  refine wp_region_noPanic ?_
  refine wp_region_held_drew (S := S) (by kernel_rfl) (hd _ hS) (fun hS => ?_)
  refine wpAnyH_take (i := 0) (oi := { dst := some 81, op := Op.load 36 (Operand.tmp 3), type := 36, pos := "laws_root_b1.go:76", after := #[], guard := none }) (v := L36_3) rfl (by kernel_rfl) (by kernel_rfl) (by kernel_rfl) (fun _ _ _ h => h) (y_load rfl e3 l36_3) hS ?_
  show wpAnyH _ _ _ _ _ _ _ (a.put (some 81) L36_3) _
  refine wpAnyH_take (i := 1) (oi := { dst := some 82, op := Op.move (Operand.tmp 5), type := 3, pos := "laws_root_b1.go:76", after := #[], guard := none }) (v := P5) rfl (by kernel_rfl) (by kernel_rfl) (by kernel_rfl) (fun _ _ _ h => h) (y_move rfl ((Act.eval_put_ne _ 81 5 _ (by decide)).trans e5)) hS ?_
  show wpAnyH _ _ _ _ _ _ _ ((a.put (some 81) L36_3).put (some 82) P5) _
  refine wpAnyH_take (i := 3) (oi := { dst := some 84, op := Op.load 42 (Operand.tmp 9), type := 42, pos := "laws_root_b1.go:76", after := #[], guard := none }) (v := L42_9) rfl (by kernel_rfl) (by kernel_rfl) (by kernel_rfl) (fun _ _ _ h => h) (y_load rfl ((Act.eval_put_ne _ 82 9 _ (by decide)).trans ((Act.eval_put_ne _ 81 9 _ (by decide)).trans e9)) l42_9) hS ?_
  show wpAnyH _ _ _ _ _ _ _ (((a.put (some 81) L36_3).put (some 82) P5).put (some 84) L42_9) _
  refine readyH_one (i := 2) (o := { dst := some 83, op := Op.call { callee := Callee.value (Operand.func 9), args := #[Operand.tmp 81, Operand.tmp 82], argTypes := #[36, 3] }, type := 42, pos := "laws_root_b1.go:76", after := #[{ on := 0, ground := Ground.data }, { on := 1, ground := Ground.data }], guard := none }) (by kernel_rfl) rfl rfl (fun K' hK' => ?_)
  refine c_call (S := S) (vals := #[L36_3, P5]) (v := V83) (fun _ => by rfl) (map2 ((Act.eval_put_ne _ 84 81 _ (by decide)).trans ((Act.eval_put_ne _ 82 81 _ (by decide)).trans (Act.eval_put_same _ 81 _ (by omega : 81 < a.tmps.size)))) ((Act.eval_put_ne _ 84 82 _ (by decide)).trans (Act.eval_put_same _ 82 _ (lt_put (by omega : 82 < a.tmps.size))))) (c83 _ hS) (fun w1 hS1 => hK' _ _ hS1 ?_)
  clear hK' K'
  show wpAnyH _ _ _ _ _ _ _ ((((a.put (some 81) L36_3).put (some 82) P5).put (some 84) L42_9).put (some 83) V83) _
  refine wpAnyH_take (i := 4) (oi := { dst := some 85, op := Op.binOp BinOp.neq 42 (Operand.tmp 83) (Operand.tmp 84) 42, type := 4, pos := "laws_root_b1.go:76", after := #[{ on := 2, ground := Ground.data }, { on := 3, ground := Ground.data }], guard := none }) (v := (Value.bool false)) rfl (by kernel_rfl) (by kernel_rfl) (by kernel_rfl) (fun _ _ _ h => h) (y_bin rfl (Act.eval_put_same _ 83 _ (lt_put (lt_put (lt_put (by omega : 83 < a.tmps.size))))) ((Act.eval_put_ne _ 83 84 _ (by decide)).trans (Act.eval_put_same _ 84 _ (lt_put (lt_put (by omega : 84 < a.tmps.size))))) g85 b85) hS1 ?_
  show wpAnyH _ _ _ _ _ _ _ (((((a.put (some 81) L36_3).put (some 82) P5).put (some 84) L42_9).put (some 83) V83).put (some 85) (Value.bool false)) _
  refine wpAnyH_done (by kernel_rfl) ?_ _
  exact NoPanic.normal (hK _ hS1)

end Go.Proofs.Qxb6614855aDoor
