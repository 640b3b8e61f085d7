/- The tied card: the row's proof, the given tie, the builder's one call. -/
import Derived.Test.Qxb6614855aDoorRow4
import Derived.Test.Qxb6614855aDoorTie
import Derived.Test.Qxb6614855aDoorCards
import Derived.SevenTiedAt
namespace Go.Proofs.Qxb6614855aDoor.fnNewCellSameAroundEveryPoint
open Go

/-- ████ THE STATEMENT ████ -/
theorem proved : Rows.FnNewCellSameAroundEveryPointCardSaid :=
  Claim7.holds_tied_plain_at .later [] [.data] true (true, "d70ccb2bec35c5a73a8880de0effb86bbb5ddbb35c0aef788263b796f34102c4") false
    row (fun _ h => by cases h) (by kernel_rfl) (fun _ h => by cases h) fnNewCellSameAroundEveryPoint_row_tie rfl ⟨rfl, rfl⟩ (by kernel_rfl) rfl
    (fun f fn hf hfn => by
      obtain rfl : f = 4 := Option.some.inj ((show Tryd.prog.funcNamed Rows.fnNewCellSameAroundEveryPointRow.func = some 4 by kernel_rfl).symm.trans hf) |>.symm
      obtain rfl : fn = Tryd.f4 := (Option.some.inj (Tryd.func4.symm.trans hfn)).symm
      exact ⟨by kernel_rfl, fun j t ht => by
        rw [Tryd.params4] at ht
        have hm : t ∈ [23, 23] := by simpa using Array.mem_of_getElem? ht
        have hall : ([23, 23].all fun u => !Tryd.prog.wantsStandIn u) = true := by kernel_rfl
        exact (show Tryd.prog.wantsStandIn t = false by simpa using List.all_eq_true.1 hall t hm)⟩)
    (by kernel_rfl)
end Go.Proofs.Qxb6614855aDoor.fnNewCellSameAroundEveryPoint
