/-
  No cell of these rows narrows 'for every input' (looked for: loops, veiled, ifaces, maps, wideKeys, modest, calm, conditions, laid).
  DERIVED. THE GIVEN ROWS OF THIS SEAT. 2 by the template 'for every input the law returns true; each argument reads behind the call as it read before'; 0 by the template 'total and deterministic' (their statements: Qxb6617690aTotals.lean).
  GIVEN WITH THE SEED: the statements are not yours to turn. If you find one false, say at which input.
  Laid BY PROGRAM, IN A SANDBOX (cutbox-rows.mjs): the forced cells as the released guide's own fill.sh prints them over the translation 8d9aa8398a5840e2… (all of the seat's roots in one cut). By AI agents, Wed Nov 11 2026. No macro, syntax, notation, axiom, sorry.
-/
import Derived.Test.Qxb6617690aChecked
import GoSem.Claim
import GoSem.ClaimJoined
import GoSem.ClaimMapViews
import Derived.JoinedTies
import Derived.KernelRfl
namespace Go.Proofs.Qxb6617690a
/- THE CELL 'sum', in the pinned program and in every row, IS THE sha256 OF THE DUMP (.gsa) THAT Qxb6617690aProg.lean LOADS. Nothing in Lean hashes anything: it is a label: what it is worth is what the hold of that sum in a sandbox is worth. -/
noncomputable def Try.pinned : Pinned := { name := "qxb6617690a", sum := "8d9aa8398a5840e2c3e9eaf504b07db401d8e46c713b2fd43a331191c07d667e", checked := Try.checked }
namespace Rows
def none {H : Type} : Left H := { results := [], args := [] }

/-- 'zzlaws_internal_diff_b1.FnMiddleSnakeSplitsAShortestEditPathAtItsMiddle': WHATEVER THE INPUT: true; the input reads as it did. -/
def fnMiddleSnakeSplitsAShortestEditPathAtItsMiddleSpec : ChangeSpec := { name := "fnMiddleSnakeSplitsAShortestEditPathAtItsMiddle", fn := fun _ => fun
  | [d1, d2, d3, d4, d5, d6, d7, d8, d9, d10] => { results := [.lit (.bool true)], args := [d1, d2, d3, d4, d5, d6, d7, d8, d9, d10] }
  | _ => none }
def fnMiddleSnakeSplitsAShortestEditPathAtItsMiddleRow : OpenClaim := { program := "qxb6617690a", sum := "8d9aa8398a5840e2c3e9eaf504b07db401d8e46c713b2fd43a331191c07d667e", func := "example.com/idiomrun/idiomrun/zzlaws_internal_diff_b1.FnMiddleSnakeSplitsAShortestEditPathAtItsMiddle", spec := "fnMiddleSnakeSplitsAShortestEditPathAtItsMiddle", apart := false }
def FnMiddleSnakeSplitsAShortestEditPathAtItsMiddleSaid : Prop := fnMiddleSnakeSplitsAShortestEditPathAtItsMiddleRow.holds Try.pinned (OpenSpec.ofChange fnMiddleSnakeSplitsAShortestEditPathAtItsMiddleSpec)

/-- ITS FALSE NEIGHBOUR: 'it returns false'. Refute it at one input. -/
def fnMiddleSnakeSplitsAShortestEditPathAtItsMiddleWrong : ChangeSpec := { name := "fnMiddleSnakeSplitsAShortestEditPathAtItsMiddle", fn := fun _ => fun
  | [d1, d2, d3, d4, d5, d6, d7, d8, d9, d10] => { results := [.lit (.bool false)], args := [d1, d2, d3, d4, d5, d6, d7, d8, d9, d10] }
  | _ => none }
def FnMiddleSnakeSplitsAShortestEditPathAtItsMiddleWrongFalsely : Prop := fnMiddleSnakeSplitsAShortestEditPathAtItsMiddleRow.holds Try.pinned (OpenSpec.ofChange fnMiddleSnakeSplitsAShortestEditPathAtItsMiddleWrong)

/-- 'zzlaws_internal_diff_b1.FnMiddleSnakeReadsOnlyItsStretch': WHATEVER THE INPUT: true; the input reads as it did. -/
def fnMiddleSnakeReadsOnlyItsStretchSpec : ChangeSpec := { name := "fnMiddleSnakeReadsOnlyItsStretch", fn := fun _ => fun
  | [d1, d2, d3, d4, d5, d6, d7, d8, d9, d10] => { results := [.lit (.bool true)], args := [d1, d2, d3, d4, d5, d6, d7, d8, d9, d10] }
  | _ => none }
def fnMiddleSnakeReadsOnlyItsStretchRow : OpenClaim := { program := "qxb6617690a", sum := "8d9aa8398a5840e2c3e9eaf504b07db401d8e46c713b2fd43a331191c07d667e", func := "example.com/idiomrun/idiomrun/zzlaws_internal_diff_b1.FnMiddleSnakeReadsOnlyItsStretch", spec := "fnMiddleSnakeReadsOnlyItsStretch", apart := false }
def FnMiddleSnakeReadsOnlyItsStretchSaid : Prop := fnMiddleSnakeReadsOnlyItsStretchRow.holds Try.pinned (OpenSpec.ofChange fnMiddleSnakeReadsOnlyItsStretchSpec)

/-- ITS FALSE NEIGHBOUR: 'it returns false'. Refute it at one input. -/
def fnMiddleSnakeReadsOnlyItsStretchWrong : ChangeSpec := { name := "fnMiddleSnakeReadsOnlyItsStretch", fn := fun _ => fun
  | [d1, d2, d3, d4, d5, d6, d7, d8, d9, d10] => { results := [.lit (.bool false)], args := [d1, d2, d3, d4, d5, d6, d7, d8, d9, d10] }
  | _ => none }
def FnMiddleSnakeReadsOnlyItsStretchWrongFalsely : Prop := fnMiddleSnakeReadsOnlyItsStretchRow.holds Try.pinned (OpenSpec.ofChange fnMiddleSnakeReadsOnlyItsStretchWrong)

end Rows
end Go.Proofs.Qxb6617690a
