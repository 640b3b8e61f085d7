/-
  DERIVED. GIVEN WITH THE SEED: THE CARDS: each row of Qxb6614855aDoorRows.lean that lists a variable, with what it lists TIED to the program's text (the seventh form; the later family's looks); each row that meets fmt, with fmt's text TOLD by the authors' own Lean function (tested against real Go, not proved from fmt's source: count such statements apart). THE CARD IS WHAT COUNTS. Prove the row's statement (the work); the ties are given (Qxb6614855aDoorTie.lean); close each card by the builder's one call (the guide's Derived/Test/ToyasCard.lean, 'card_holds'). Laid BY PROGRAM, IN A SANDBOX (cutbox-door.mjs). By AI agents, Wed Nov 11 2026. No macro, syntax, notation, axiom, sorry.
-/
import Derived.Test.Qxb6614855aDoorRows
import GoSem.ClaimSeven
namespace Go.Proofs.Qxb6614855aDoor
namespace Rows

/-- THE TIED CARD OF 'zzlaws_root_b1.FnNewCellIsTheTorusCube'. -/
def fnNewCellIsTheTorusCubeCard : Claim7 := { stood := { row := fnNewCellIsTheTorusCubeRow, standIns := [], harness := (true, "d70ccb2bec35c5a73a8880de0effb86bbb5ddbb35c0aef788263b796f34102c4"), looks := false }, kinds := [], alts := [], laidByText := true, laidKinds := [.data], laidTests := true, laidLooks := .later }
def FnNewCellIsTheTorusCubeCardSaid : Prop := Claim7.holds Tryd.pinned (.plain (OpenSpec.ofChange fnNewCellIsTheTorusCubeSpec)) fnNewCellIsTheTorusCubeCard

/-- THE TIED CARD OF 'zzlaws_root_b1.FnNewCellSameAroundEveryPoint'. -/
def fnNewCellSameAroundEveryPointCard : Claim7 := { stood := { row := fnNewCellSameAroundEveryPointRow, standIns := [], harness := (true, "d70ccb2bec35c5a73a8880de0effb86bbb5ddbb35c0aef788263b796f34102c4"), looks := false }, kinds := [], alts := [], laidByText := true, laidKinds := [.data], laidTests := true, laidLooks := .later }
def FnNewCellSameAroundEveryPointCardSaid : Prop := Claim7.holds Tryd.pinned (.plain (OpenSpec.ofChange fnNewCellSameAroundEveryPointSpec)) fnNewCellSameAroundEveryPointCard
end Rows
end Go.Proofs.Qxb6614855aDoor
