/-
  No cell of these rows narrows 'for every input' (looked for: loops, veiled, ifaces, maps, wideKeys, modest, calm, conditions, laid).
  DERIVED. THE GIVEN ROWS OF THIS SEAT. 2 by the template 'for every input the law returns true; each argument reads behind the call as it read before'; 0 by the template 'total and deterministic' (their statements: Qxb6629019aTotals.lean).
  GIVEN WITH THE SEED: the statements are not yours to turn. If you find one false, say at which input.
  Laid BY PROGRAM, IN A SANDBOX (cutbox-rows.mjs): the forced cells as the released guide's own fill.sh prints them over the translation 8a8456741bbd1f62… (all of the seat's roots in one cut). By AI agents, Wed Nov 11 2026. No macro, syntax, notation, axiom, sorry.
-/
import Derived.Test.Qxb6629019aChecked
import GoSem.Claim
import GoSem.ClaimJoined
import GoSem.ClaimMapViews
import Derived.JoinedTies
import Derived.KernelRfl
namespace Go.Proofs.Qxb6629019a
/- THE CELL 'sum', in the pinned program and in every row, IS THE sha256 OF THE DUMP (.gsa) THAT Qxb6629019aProg.lean LOADS. Nothing in Lean hashes anything: it is a label: what it is worth is what the hold of that sum in a sandbox is worth. -/
noncomputable def Try.pinned : Pinned := { name := "qxb6629019a", sum := "8a8456741bbd1f626f5b4560ef59550e7593d2074f330e176cdb135071c91f45", checked := Try.checked }
namespace Rows
def none {H : Type} : Left H := { results := [], args := [] }

/-- 'zzlaws_pkg_protocol_b1.FnAcknowledgedExact': WHATEVER THE INPUT: true; the input reads as it did. -/
def fnAcknowledgedExactSpec : ChangeSpec := { name := "fnAcknowledgedExact", fn := fun _ => fun
  | [d1, d2, d3, d4, d5, d6] => { results := [.lit (.bool true)], args := [d1, d2, d3, d4, d5, d6] }
  | _ => none }
def fnAcknowledgedExactRow : OpenClaim := { program := "qxb6629019a", sum := "8a8456741bbd1f626f5b4560ef59550e7593d2074f330e176cdb135071c91f45", func := "example.com/ratify/ratify/zzlaws_pkg_protocol_b1.FnAcknowledgedExact", spec := "fnAcknowledgedExact", apart := false }
def FnAcknowledgedExactSaid : Prop := fnAcknowledgedExactRow.holds Try.pinned (OpenSpec.ofChange fnAcknowledgedExactSpec)

/-- ITS FALSE NEIGHBOUR: 'it returns false'. Refute it at one input. -/
def fnAcknowledgedExactWrong : ChangeSpec := { name := "fnAcknowledgedExact", fn := fun _ => fun
  | [d1, d2, d3, d4, d5, d6] => { results := [.lit (.bool false)], args := [d1, d2, d3, d4, d5, d6] }
  | _ => none }
def FnAcknowledgedExactWrongFalsely : Prop := fnAcknowledgedExactRow.holds Try.pinned (OpenSpec.ofChange fnAcknowledgedExactWrong)

/-- 'zzlaws_pkg_protocol_b1.FnAcknowledgedEveryoneInOrder': WHATEVER THE INPUT: true; the input reads as it did. -/
def fnAcknowledgedEveryoneInOrderSpec : ChangeSpec := { name := "fnAcknowledgedEveryoneInOrder", fn := fun _ => fun
  | [d1, d2, d3, d4] => { results := [.lit (.bool true)], args := [d1, d2, d3, d4] }
  | _ => none }
def fnAcknowledgedEveryoneInOrderRow : OpenClaim := { program := "qxb6629019a", sum := "8a8456741bbd1f626f5b4560ef59550e7593d2074f330e176cdb135071c91f45", func := "example.com/ratify/ratify/zzlaws_pkg_protocol_b1.FnAcknowledgedEveryoneInOrder", spec := "fnAcknowledgedEveryoneInOrder", apart := false }
def FnAcknowledgedEveryoneInOrderSaid : Prop := fnAcknowledgedEveryoneInOrderRow.holds Try.pinned (OpenSpec.ofChange fnAcknowledgedEveryoneInOrderSpec)

/-- ITS FALSE NEIGHBOUR: 'it returns false'. Refute it at one input. -/
def fnAcknowledgedEveryoneInOrderWrong : ChangeSpec := { name := "fnAcknowledgedEveryoneInOrder", fn := fun _ => fun
  | [d1, d2, d3, d4] => { results := [.lit (.bool false)], args := [d1, d2, d3, d4] }
  | _ => none }
def FnAcknowledgedEveryoneInOrderWrongFalsely : Prop := fnAcknowledgedEveryoneInOrderRow.holds Try.pinned (OpenSpec.ofChange fnAcknowledgedEveryoneInOrderWrong)

end Rows
end Go.Proofs.Qxb6629019a
