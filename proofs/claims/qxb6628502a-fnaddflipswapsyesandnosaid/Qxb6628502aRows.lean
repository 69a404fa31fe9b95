/-
  No cell of these rows narrows 'for every input' (looked for: loops, veiled, ifaces, maps, wideKeys, modest, calm, conditions, laid).
  DERIVED. THE GIVEN ROWS OF THIS SEAT. 2 by the template 'for every input the law returns true; each argument reads behind the call as it read before'; 0 by the template 'total and deterministic' (their statements: Qxb6628502aTotals.lean).
  GIVEN WITH THE SEED: the statements are not yours to turn. If you find one false, say at which input.
  Laid BY PROGRAM, IN A SANDBOX (cutbox-rows.mjs): the forced cells as the released guide's own fill.sh prints them over the translation dda0fce673d315fb… (all of the seat's roots in one cut). By AI agents, Wed Nov 11 2026. No macro, syntax, notation, axiom, sorry.
-/
import Derived.Test.Qxb6628502aChecked
import GoSem.Claim
import GoSem.ClaimJoined
import GoSem.ClaimMapViews
import Derived.JoinedTies
import Derived.KernelRfl
namespace Go.Proofs.Qxb6628502a
/- THE CELL 'sum', in the pinned program and in every row, IS THE sha256 OF THE DUMP (.gsa) THAT Qxb6628502aProg.lean LOADS. Nothing in Lean hashes anything: it is a label: what it is worth is what the hold of that sum in a sandbox is worth. -/
noncomputable def Try.pinned : Pinned := { name := "qxb6628502a", sum := "dda0fce673d315fb6ca6afa18385c4c460c2e5436935f4bb4d8d50eb4d536e1b", checked := Try.checked }
namespace Rows
def none {H : Type} : Left H := { results := [], args := [] }

/-- 'zzlaws_internal_fastcommit_b1.FnAddScriptMatchesCount': WHATEVER THE INPUT: true; the input reads as it did. -/
def fnAddScriptMatchesCountSpec : ChangeSpec := { name := "fnAddScriptMatchesCount", fn := fun _ => fun
  | [d1, d2, d3, d4, d5] => { results := [.lit (.bool true)], args := [d1, d2, d3, d4, d5] }
  | _ => none }
def fnAddScriptMatchesCountRow : OpenClaim := { program := "qxb6628502a", sum := "dda0fce673d315fb6ca6afa18385c4c460c2e5436935f4bb4d8d50eb4d536e1b", func := "example.com/unanimo/unanimo/zzlaws_internal_fastcommit_b1.FnAddScriptMatchesCount", spec := "fnAddScriptMatchesCount", apart := false }
def FnAddScriptMatchesCountSaid : Prop := fnAddScriptMatchesCountRow.holds Try.pinned (OpenSpec.ofChange fnAddScriptMatchesCountSpec)

/-- ITS FALSE NEIGHBOUR: 'it returns false'. Refute it at one input. -/
def fnAddScriptMatchesCountWrong : ChangeSpec := { name := "fnAddScriptMatchesCount", fn := fun _ => fun
  | [d1, d2, d3, d4, d5] => { results := [.lit (.bool false)], args := [d1, d2, d3, d4, d5] }
  | _ => none }
def FnAddScriptMatchesCountWrongFalsely : Prop := fnAddScriptMatchesCountRow.holds Try.pinned (OpenSpec.ofChange fnAddScriptMatchesCountWrong)

/-- 'zzlaws_internal_fastcommit_b1.FnAddFlipSwapsYesAndNo': WHATEVER THE INPUT: true; the input reads as it did. -/
def fnAddFlipSwapsYesAndNoSpec : ChangeSpec := { name := "fnAddFlipSwapsYesAndNo", fn := fun _ => fun
  | [d1, d2, d3, d4, d5] => { results := [.lit (.bool true)], args := [d1, d2, d3, d4, d5] }
  | _ => none }
def fnAddFlipSwapsYesAndNoRow : OpenClaim := { program := "qxb6628502a", sum := "dda0fce673d315fb6ca6afa18385c4c460c2e5436935f4bb4d8d50eb4d536e1b", func := "example.com/unanimo/unanimo/zzlaws_internal_fastcommit_b1.FnAddFlipSwapsYesAndNo", spec := "fnAddFlipSwapsYesAndNo", apart := false }
def FnAddFlipSwapsYesAndNoSaid : Prop := fnAddFlipSwapsYesAndNoRow.holds Try.pinned (OpenSpec.ofChange fnAddFlipSwapsYesAndNoSpec)

/-- ITS FALSE NEIGHBOUR: 'it returns false'. Refute it at one input. -/
def fnAddFlipSwapsYesAndNoWrong : ChangeSpec := { name := "fnAddFlipSwapsYesAndNo", fn := fun _ => fun
  | [d1, d2, d3, d4, d5] => { results := [.lit (.bool false)], args := [d1, d2, d3, d4, d5] }
  | _ => none }
def FnAddFlipSwapsYesAndNoWrongFalsely : Prop := fnAddFlipSwapsYesAndNoRow.holds Try.pinned (OpenSpec.ofChange fnAddFlipSwapsYesAndNoWrong)

end Rows
end Go.Proofs.Qxb6628502a
