/-
  No cell of these rows narrows 'for every input' (looked for: loops, veiled, ifaces, maps, wideKeys, modest, calm, conditions, laid).
  DERIVED. THE GIVEN ROWS OF THIS SEAT. 2 by the template 'for every input the law returns true; each argument reads behind the call as it read before'; 0 by the template 'total and deterministic' (their statements: Qxb6628988aTotals.lean).
  GIVEN WITH THE SEED: the statements are not yours to turn. If you find one false, say at which input.
  Laid BY PROGRAM, IN A SANDBOX (cutbox-rows.mjs): the forced cells as the released guide's own fill.sh prints them over the translation a891e9cf0b74a0ce… (all of the seat's roots in one cut). By AI agents, Wed Nov 11 2026. No macro, syntax, notation, axiom, sorry.
-/
import Derived.Test.Qxb6628988aChecked
import GoSem.Claim
import GoSem.ClaimJoined
import GoSem.ClaimMapViews
import Derived.JoinedTies
import Derived.KernelRfl
namespace Go.Proofs.Qxb6628988a
/- THE CELL 'sum', in the pinned program and in every row, IS THE sha256 OF THE DUMP (.gsa) THAT Qxb6628988aProg.lean LOADS. Nothing in Lean hashes anything: it is a label: what it is worth is what the hold of that sum in a sandbox is worth. -/
noncomputable def Try.pinned : Pinned := { name := "qxb6628988a", sum := "a891e9cf0b74a0ce4225ab25f0ca5340dc402580de5fd51153c231b2b18df244", checked := Try.checked }
namespace Rows
def none {H : Type} : Left H := { results := [], args := [] }

/-- 'zzlaws_api_b1.FnHandlersAreTheGivenOnesInFieldOrder': WHATEVER THE INPUT: true; the input reads as it did. -/
def fnHandlersAreTheGivenOnesInFieldOrderSpec : ChangeSpec := { name := "fnHandlersAreTheGivenOnesInFieldOrder", fn := fun _ => fun
  | [d1, d2, d3, d4, d5, d6, d7, d8, d9, d10, d11] => { results := [.lit (.bool true)], args := [d1, d2, d3, d4, d5, d6, d7, d8, d9, d10, d11] }
  | _ => none }
def fnHandlersAreTheGivenOnesInFieldOrderRow : OpenClaim := { program := "qxb6628988a", sum := "a891e9cf0b74a0ce4225ab25f0ca5340dc402580de5fd51153c231b2b18df244", func := "example.com/rekindle/rekindle/zzlaws_api_b1.FnHandlersAreTheGivenOnesInFieldOrder", spec := "fnHandlersAreTheGivenOnesInFieldOrder", apart := false }
def FnHandlersAreTheGivenOnesInFieldOrderSaid : Prop := fnHandlersAreTheGivenOnesInFieldOrderRow.holds Try.pinned (OpenSpec.ofChange fnHandlersAreTheGivenOnesInFieldOrderSpec)

/-- ITS FALSE NEIGHBOUR: 'it returns false'. Refute it at one input. -/
def fnHandlersAreTheGivenOnesInFieldOrderWrong : ChangeSpec := { name := "fnHandlersAreTheGivenOnesInFieldOrder", fn := fun _ => fun
  | [d1, d2, d3, d4, d5, d6, d7, d8, d9, d10, d11] => { results := [.lit (.bool false)], args := [d1, d2, d3, d4, d5, d6, d7, d8, d9, d10, d11] }
  | _ => none }
def FnHandlersAreTheGivenOnesInFieldOrderWrongFalsely : Prop := fnHandlersAreTheGivenOnesInFieldOrderRow.holds Try.pinned (OpenSpec.ofChange fnHandlersAreTheGivenOnesInFieldOrderWrong)

/-- 'zzlaws_api_b1.FnHandlersOneMoreHandlerInsertsItsName': WHATEVER THE INPUT: true; the input reads as it did. -/
def fnHandlersOneMoreHandlerInsertsItsNameSpec : ChangeSpec := { name := "fnHandlersOneMoreHandlerInsertsItsName", fn := fun _ => fun
  | [d1, d2, d3, d4, d5, d6, d7, d8, d9, d10, d11] => { results := [.lit (.bool true)], args := [d1, d2, d3, d4, d5, d6, d7, d8, d9, d10, d11] }
  | _ => none }
def fnHandlersOneMoreHandlerInsertsItsNameRow : OpenClaim := { program := "qxb6628988a", sum := "a891e9cf0b74a0ce4225ab25f0ca5340dc402580de5fd51153c231b2b18df244", func := "example.com/rekindle/rekindle/zzlaws_api_b1.FnHandlersOneMoreHandlerInsertsItsName", spec := "fnHandlersOneMoreHandlerInsertsItsName", apart := false }
def FnHandlersOneMoreHandlerInsertsItsNameSaid : Prop := fnHandlersOneMoreHandlerInsertsItsNameRow.holds Try.pinned (OpenSpec.ofChange fnHandlersOneMoreHandlerInsertsItsNameSpec)

/-- ITS FALSE NEIGHBOUR: 'it returns false'. Refute it at one input. -/
def fnHandlersOneMoreHandlerInsertsItsNameWrong : ChangeSpec := { name := "fnHandlersOneMoreHandlerInsertsItsName", fn := fun _ => fun
  | [d1, d2, d3, d4, d5, d6, d7, d8, d9, d10, d11] => { results := [.lit (.bool false)], args := [d1, d2, d3, d4, d5, d6, d7, d8, d9, d10, d11] }
  | _ => none }
def FnHandlersOneMoreHandlerInsertsItsNameWrongFalsely : Prop := fnHandlersOneMoreHandlerInsertsItsNameRow.holds Try.pinned (OpenSpec.ofChange fnHandlersOneMoreHandlerInsertsItsNameWrong)

end Rows
end Go.Proofs.Qxb6628988a
