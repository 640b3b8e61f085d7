/- The tied card: the row's proof, the given tie, the builder's one call. -/
import Derived.Test.Qxb6616078aDoorRowProof
import Derived.Test.Qxb6616078aDoorTie
import Derived.Test.Qxb6616078aDoorCards
import Derived.SevenTiedAt
namespace Go.Proofs.Qxb6616078aDoor.fnKeptSetListedAndPackedFormsAgree
open Go

/-- ████ THE STATEMENT ████ -/
theorem proved : Rows.FnKeptSetListedAndPackedFormsAgreeCardSaid :=
  Claim7.holds_tied_plain_at .later [] [.data] true (true, "7fbfc92b5d8a72c3333ce9b2cd758bda0de28e414593f49bc07e5b06c98fe600") false
    row (fun _ h => by cases h) (by kernel_rfl) (fun _ h => by cases h) fnKeptSetListedAndPackedFormsAgree_row_tie rfl ⟨rfl, rfl⟩ (by kernel_rfl) rfl
    (fun f fn hf hfn => by
      obtain rfl : f = 3 := Option.some.inj ((show Tryd.prog.funcNamed Rows.fnKeptSetListedAndPackedFormsAgreeRow.func = some 3 by kernel_rfl).symm.trans hf) |>.symm
      obtain rfl : fn = Tryd.f3 := (Option.some.inj (Tryd.func3.symm.trans hfn)).symm
      exact ⟨by kernel_rfl, fun j t ht => by
        rw [Tryd.params3] at ht
        have hm : t ∈ [22] := by simpa using Array.mem_of_getElem? ht
        have hall : ([22].all fun u => !Tryd.prog.wantsStandIn u) = true := by kernel_rfl
        exact (show Tryd.prog.wantsStandIn t = false by simpa using List.all_eq_true.1 hall t hm)⟩)
    (by kernel_rfl)
end Go.Proofs.Qxb6616078aDoor.fnKeptSetListedAndPackedFormsAgree
