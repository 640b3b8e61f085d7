/-
  No cell of these rows narrows 'for every input' (looked for: loops, veiled, ifaces, maps, wideKeys, modest, calm, conditions, laid).
  DERIVED. THE GIVEN ROWS OF THIS SEAT. 1 by the template 'for every input the law returns true; each argument reads behind the call as it read before'; 0 by the template 'total and deterministic' (their statements: Qxb6617650aTotals.lean).
  GIVEN WITH THE SEED: the statements are not yours to turn. If you find one false, say at which input.
  Laid BY PROGRAM, IN A SANDBOX (cutbox-rows.mjs): the forced cells as the released guide's own fill.sh prints them over the translation d2e524c140b258c3… (all of the seat's roots in one cut). By AI agents, Wed Nov 11 2026. No macro, syntax, notation, axiom, sorry.
-/
import Derived.Test.Qxb6617650aChecked
import GoSem.Claim
import GoSem.ClaimJoined
import GoSem.ClaimMapViews
import Derived.JoinedTies
import Derived.KernelRfl
namespace Go.Proofs.Qxb6617650a
/- THE CELL 'sum', in the pinned program and in every row, IS THE sha256 OF THE DUMP (.gsa) THAT Qxb6617650aProg.lean LOADS. Nothing in Lean hashes anything: it is a label: what it is worth is what the hold of that sum in a sandbox is worth. -/
noncomputable def Try.pinned : Pinned := { name := "qxb6617650a", sum := "d2e524c140b258c3b2e1651060a4bc0ff0584b82928f91737678f552d1f79ef9", checked := Try.checked }
namespace Rows
def none {H : Type} : Left H := { results := [], args := [] }

/-- 'zzlaws_internal_puzzle_b1.FnNonceJoinAtAnyCut': WHATEVER THE INPUT: true; the input reads as it did. -/
def fnNonceJoinAtAnyCutSpec : ChangeSpec := { name := "fnNonceJoinAtAnyCut", fn := fun _ => fun
  | [d1, d2, d3] => { results := [.lit (.bool true)], args := [d1, d2, d3] }
  | _ => none }
def fnNonceJoinAtAnyCutRow : OpenClaim := { program := "qxb6617650a", sum := "d2e524c140b258c3b2e1651060a4bc0ff0584b82928f91737678f552d1f79ef9", func := "example.com/danevirke/danevirke/zzlaws_internal_puzzle_b1.FnNonceJoinAtAnyCut", spec := "fnNonceJoinAtAnyCut", apart := false }
def FnNonceJoinAtAnyCutSaid : Prop := fnNonceJoinAtAnyCutRow.holds Try.pinned (OpenSpec.ofChange fnNonceJoinAtAnyCutSpec)

/-- ITS FALSE NEIGHBOUR: 'it returns false'. Refute it at one input. -/
def fnNonceJoinAtAnyCutWrong : ChangeSpec := { name := "fnNonceJoinAtAnyCut", fn := fun _ => fun
  | [d1, d2, d3] => { results := [.lit (.bool false)], args := [d1, d2, d3] }
  | _ => none }
def FnNonceJoinAtAnyCutWrongFalsely : Prop := fnNonceJoinAtAnyCutRow.holds Try.pinned (OpenSpec.ofChange fnNonceJoinAtAnyCutWrong)

end Rows
end Go.Proofs.Qxb6617650a
