/-
  No cell of these rows narrows 'for every input' (looked for: loops, veiled, ifaces, maps, wideKeys, modest, calm, conditions, laid).
  DERIVED. THE GIVEN ROWS OF THIS SEAT. 2 by the template 'for every input the law returns true; each argument reads behind the call as it read before'; 0 by the template 'total and deterministic' (their statements: Qxb6628467aFmtTotals.lean).
  GIVEN WITH THE SEED: the statements are not yours to turn. If you find one false, say at which input.
  Laid BY PROGRAM, IN A SANDBOX (cutbox-rows.mjs): the forced cells as the released guide's own fill.sh prints them over the translation fdff48f7d5f981bc… (all of the seat's roots in one cut). By AI agents, Wed Nov 11 2026. No macro, syntax, notation, axiom, sorry.
-/
import Derived.Test.Qxb6628467aFmtChecked
import GoSem.Claim
import GoSem.ClaimJoined
import GoSem.ClaimMapViews
import Derived.JoinedTies
import Derived.KernelRfl
namespace Go.Proofs.Qxb6628467aFmt
/- THE CELL 'sum', in the pinned program and in every row, IS THE sha256 OF THE DUMP (.gsa) THAT Qxb6628467aFmtProg.lean LOADS. Nothing in Lean hashes anything: it is a label: what it is worth is what the hold of that sum in a sandbox is worth. -/
noncomputable def Tryf.pinned : Pinned := { name := "qxb6628467afmt", sum := "fdff48f7d5f981bc97a7f5fa48b89c4492f57f263e51d6fb913d55be5108117b", checked := Tryf.checked }
namespace Rows
def none {H : Type} : Left H := { results := [], args := [] }

/-- 'zzlaws_internal_conf_b1.FnCheckAllReadUnreadInsertedAnywhere': WHATEVER THE INPUT: true; the input reads as it did. -/
def fnCheckAllReadUnreadInsertedAnywhereSpec : ChangeSpec := { name := "fnCheckAllReadUnreadInsertedAnywhere", fn := fun _ => fun
  | [d1, d2, d3, d4, d5, d6, d7, d8] => { results := [.lit (.bool true)], args := [d1, d2, d3, d4, d5, d6, d7, d8] }
  | _ => none }
def fnCheckAllReadUnreadInsertedAnywhereRow : OpenClaim := { program := "qxb6628467afmt", sum := "fdff48f7d5f981bc97a7f5fa48b89c4492f57f263e51d6fb913d55be5108117b", func := "example.com/tariffwire/tariffwire/zzlaws_internal_conf_b1.FnCheckAllReadUnreadInsertedAnywhere", spec := "fnCheckAllReadUnreadInsertedAnywhere", stops := ["fmt.Sprintf", "fmt.errorf"], inPlace := ["fmt.Sprintf", "fmt.errorf"], apart := false }
/-- NO THEOREM (fmt's text is open here; it may be false): for the released tool's asking of the row's closed facts alone. THE STATEMENT IS 'FnCheckAllReadUnreadInsertedAnywhereToldSaid' (Qxb6628467aFmtCards.lean). -/
def FnCheckAllReadUnreadInsertedAnywhereFormAsk : Prop := fnCheckAllReadUnreadInsertedAnywhereRow.holds Tryf.pinned (OpenSpec.ofChange fnCheckAllReadUnreadInsertedAnywhereSpec)

/-- ITS FALSE NEIGHBOUR: 'it returns false'. Refute it at one input. -/
def fnCheckAllReadUnreadInsertedAnywhereWrong : ChangeSpec := { name := "fnCheckAllReadUnreadInsertedAnywhere", fn := fun _ => fun
  | [d1, d2, d3, d4, d5, d6, d7, d8] => { results := [.lit (.bool false)], args := [d1, d2, d3, d4, d5, d6, d7, d8] }
  | _ => none }
def FnCheckAllReadUnreadInsertedAnywhereWrongFormAsk : Prop := fnCheckAllReadUnreadInsertedAnywhereRow.holds Tryf.pinned (OpenSpec.ofChange fnCheckAllReadUnreadInsertedAnywhereWrong)

/-- 'zzlaws_internal_conf_b1.FnCheckAllReadSplitAtAnyCut': WHATEVER THE INPUT: true; the input reads as it did. -/
def fnCheckAllReadSplitAtAnyCutSpec : ChangeSpec := { name := "fnCheckAllReadSplitAtAnyCut", fn := fun _ => fun
  | [d1, d2, d3, d4, d5] => { results := [.lit (.bool true)], args := [d1, d2, d3, d4, d5] }
  | _ => none }
def fnCheckAllReadSplitAtAnyCutRow : OpenClaim := { program := "qxb6628467afmt", sum := "fdff48f7d5f981bc97a7f5fa48b89c4492f57f263e51d6fb913d55be5108117b", func := "example.com/tariffwire/tariffwire/zzlaws_internal_conf_b1.FnCheckAllReadSplitAtAnyCut", spec := "fnCheckAllReadSplitAtAnyCut", stops := ["fmt.Sprintf", "fmt.errorf"], inPlace := ["fmt.Sprintf", "fmt.errorf"], apart := false }
/-- NO THEOREM (fmt's text is open here; it may be false): for the released tool's asking of the row's closed facts alone. THE STATEMENT IS 'FnCheckAllReadSplitAtAnyCutToldSaid' (Qxb6628467aFmtCards.lean). -/
def FnCheckAllReadSplitAtAnyCutFormAsk : Prop := fnCheckAllReadSplitAtAnyCutRow.holds Tryf.pinned (OpenSpec.ofChange fnCheckAllReadSplitAtAnyCutSpec)

/-- ITS FALSE NEIGHBOUR: 'it returns false'. Refute it at one input. -/
def fnCheckAllReadSplitAtAnyCutWrong : ChangeSpec := { name := "fnCheckAllReadSplitAtAnyCut", fn := fun _ => fun
  | [d1, d2, d3, d4, d5] => { results := [.lit (.bool false)], args := [d1, d2, d3, d4, d5] }
  | _ => none }
def FnCheckAllReadSplitAtAnyCutWrongFormAsk : Prop := fnCheckAllReadSplitAtAnyCutRow.holds Tryf.pinned (OpenSpec.ofChange fnCheckAllReadSplitAtAnyCutWrong)

end Rows
end Go.Proofs.Qxb6628467aFmt
