/-
  DERIVED. GIVEN WITH THE SEED: THE CARDS: each row of Qxb6616078aDoorRows.lean that lists a variable, with what it lists TIED to the program's text (the seventh form; the later family's looks); each row that meets fmt, with fmt's text TOLD by the authors' own Lean function (tested against real Go, not proved from fmt's source: count such statements apart). THE CARD IS WHAT COUNTS. Prove the row's statement (the work); the ties are given (Qxb6616078aDoorTie.lean); close each card by the builder's one call (the guide's Derived/Test/ToyasCard.lean, 'card_holds'). Laid BY PROGRAM, IN A SANDBOX (cutbox-door.mjs). By AI agents, Wed Nov 11 2026. No macro, syntax, notation, axiom, sorry.
-/
import Derived.Test.Qxb6616078aDoorRows
import GoSem.ClaimSeven
namespace Go.Proofs.Qxb6616078aDoor
namespace Rows

/-- THE TIED CARD OF 'zzlaws_pkg_dag_b1.FnKeptSetListedAndPackedFormsAgree'. -/
def fnKeptSetListedAndPackedFormsAgreeCard : Claim7 := { stood := { row := fnKeptSetListedAndPackedFormsAgreeRow, standIns := [], harness := (true, "7fbfc92b5d8a72c3333ce9b2cd758bda0de28e414593f49bc07e5b06c98fe600"), looks := false }, kinds := [], alts := [], laidByText := true, laidKinds := [.data], laidTests := true, laidLooks := .later }
def FnKeptSetListedAndPackedFormsAgreeCardSaid : Prop := Claim7.holds Tryd.pinned (.plain (OpenSpec.ofChange fnKeptSetListedAndPackedFormsAgreeSpec)) fnKeptSetListedAndPackedFormsAgreeCard
end Rows
end Go.Proofs.Qxb6616078aDoor
