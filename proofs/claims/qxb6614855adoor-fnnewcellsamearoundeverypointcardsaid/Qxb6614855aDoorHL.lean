/- Regions that draw their order: reads and calls alone. -/
import Derived.Test.Qxb6614855aDoorA2
import Derived.ChangeKeysEq
import Derived.Great.Frames
namespace Go.Proofs.Qxb6614855aDoor
open Go.RowKit

theorem put_size (a : Act) (d : Option Tmp) (v : Value) : (a.put d v).tmps.size = a.tmps.size := by
  cases d <;> simp [Act.put]

theorem wanted_guard {o : Oper} {ops : Array Oper} {a : Act} {j d : Nat} {b : Bool} (hg : o.guard = some (j, b)) (hd : ((ops[j]?).bind (·.dst)) = some d) (hs : d < a.tmps.size) (he : a.eval (.tmp d) = .bool b) :
    Region.wanted o (yielded ops a.tmps) = true := by
  unfold Region.wanted yielded
  rw [hg]
  dsimp only
  rw [hd]
  unfold Act.eval at he
  dsimp only at he
  simp only [Option.bind_some]
  rw [Array.getElem?_eq_getElem hs]
  rw [Array.getD_eq_getD_getElem?, Array.getElem?_eq_getElem hs, Option.getD_some] at he
  rw [he]
  simp

section
variable {ops : Array Oper} {S : World → Prop} {dst : Option Tmp} {tp : TypeId} {ps : String} {af : Array Edge} {g : Option (Nat × Bool)} {a : Act}

theorem y_load {T : TypeId} {x : Operand} {p v : Value} (hw : Region.wanted (Oper.mk dst (.load T x) tp ps af g) (yielded ops a.tmps) = true) (hx : a.eval x = p)
    (hl : ∀ w, S w → (Instr.loadAt T p).run Tryd.prog w = .ok v w) : YieldsIf Tryd.prog ops S (Oper.mk dst (.load T x) tp ps af g) v a :=
  .inl ⟨hw, fun w hS => by unfold execOp; simp only [hx, Sem.run_bind, hl w hS, Result.andThen_ok, Sem.run_pure]⟩
theorem y_move {x : Operand} {v : Value} (hw : Region.wanted (Oper.mk dst (.move x) tp ps af g) (yielded ops a.tmps) = true) (hx : a.eval x = v) : YieldsIf Tryd.prog ops S (Oper.mk dst (.move x) tp ps af g) v a :=
  .inl ⟨hw, fun w _ => by unfold execOp; simp only [hx, Sem.run_pure]⟩
theorem y_assign {x : Operand} {v : Value} (hw : Region.wanted (Oper.mk dst (.assign x) tp ps af g) (yielded ops a.tmps) = true) (hx : a.eval x = v) : YieldsIf Tryd.prog ops S (Oper.mk dst (.assign x) tp ps af g) v a :=
  .inl ⟨hw, fun w _ => by unfold execOp; simp only [hx, Sem.run_pure]⟩
theorem y_bin {op : BinOp} {T T' : TypeId} {x y : Operand} {X Y v : Value} (hw : Region.wanted (Oper.mk dst (.binOp op T x y T') tp ps af g) (yielded ops a.tmps) = true) (hx : a.eval x = X) (hy : a.eval y = Y)
    (hg : ∀ w, (eqGuard op T x y X Y).run Tryd.prog w = .ok () w) (hb : ∀ w, (binOp op T X Y).run Tryd.prog w = .ok v w) : YieldsIf Tryd.prog ops S (Oper.mk dst (.binOp op T x y T') tp ps af g) v a :=
  .inl ⟨hw, fun w _ => by unfold execOp; simp only [hx, hy, Sem.run_bind, hg, hb, Result.andThen_ok, Sem.run_pure]⟩
theorem y_pick {c x y : Operand} {v : Value} (hw : Region.wanted (Oper.mk dst (.pick c x y) tp ps af g) (yielded ops a.tmps) = true) (hc : a.eval c = .bool false) (hy : a.eval y = v) : YieldsIf Tryd.prog ops S (Oper.mk dst (.pick c x y) tp ps af g) v a :=
  .inl ⟨hw, fun w _ => by unfold execOp; simp [hc, hy, asBool]⟩

/-- A call, by its contract. -/
theorem c_call {f : FuncId} {args : Array Operand} {ats : Array TypeId} {vals : Array Value} {v : Value} {w : World} {K : Act → World → Prop} {Q : Exit → Act → World → Prop}
    (hin : ∀ w, (invoke (.fn (.func f) #[]) vals).run Tryd.prog w = .ok (.enter f vals) w) (hv : args.map a.eval = vals) (hc : Calls Tryd.prog f vals w fun e w' => e = .returned v ∧ S w')
    (h : ∀ w', S w' → K (a.put dst v) w') : Oper.wp Tryd.prog (Oper.mk dst (.call ⟨.value (.func f), args, ats⟩) tp ps af g) a w K Q := by
  have e : (execOp a.eval (Oper.mk dst (.call ⟨.value (.func f), args, ats⟩) tp ps af g)).run Tryd.prog w = .ok (.enter f vals) w := by
    unfold execOp
    simp only [resolve, hv]
    simp [Act.eval, Deferred.ofValue, hin]
  unfold Oper.wp
  rw [e, Oper.upon_enter]
  refine hc.mono ?_
  rintro e w' ⟨rfl, hS⟩
  exact h w' hS
end

theorem lt_put {a : Act} {d : Option Tmp} {v : Value} {s : Nat} (h : s < a.tmps.size) : s < (a.put d v).tmps.size := by rw [put_size]; exact h
theorem map1 {f : Operand → Value} {x : Operand} {v : Value} (h : f x = v) : (#[x].map f) = #[v] := by simp [h]
theorem map2 {f : Operand → Value} {x y : Operand} {u v : Value} (h : f x = u) (h' : f y = v) : (#[x, y].map f) = #[u, v] := by simp [h, h']

/-- One operation alone may come up. -/
theorem readyH_one {P : Program} {md : Region.Mode} {ops : Array Oper} {Q : Exit → Act → World → Prop} {S : World → Prop} {fuel : Nat} {listed : Array Bool} {a : Act} {w : World} {i : Nat} {o : Oper} (hr : Region.ready md ops listed = [i]) (ho : ops[i]? = some o)
    (hw : Region.wanted o (yielded ops a.tmps) = true)
    (h : ∀ K' : Act → World → Prop, (∀ a w, S w → wpAnyH P md ops Q S fuel (listed.setIfInBounds i true) a w → K' a w) → Oper.wp P o a w K' Q) : wpAnyH P md ops Q S (fuel + 1) listed a w :=
  wpAnyH_ready hr (by simp) (AllReadyH.cons ho (fun K hK => by rw [if_pos hw]; exact h K (fun a w hS hW => hK.out a w hS (fun _ => hW))) AllReadyH.nil)

end Go.Proofs.Qxb6614855aDoor
