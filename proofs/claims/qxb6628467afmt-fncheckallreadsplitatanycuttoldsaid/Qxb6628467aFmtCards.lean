/-
  DERIVED. GIVEN WITH THE SEED: THE CARDS: each row of Qxb6628467aFmtRows.lean that lists a variable, with what it lists TIED to the program's text (the seventh form; the later family's looks); each row that meets fmt, with fmt's text TOLD by the authors' own Lean function (tested against real Go, not proved from fmt's source: count such statements apart). THE CARD IS WHAT COUNTS. Prove the row's statement (the work); the ties are given (Qxb6628467aFmtTie.lean); close each card by the builder's one call (the guide's Derived/Test/ToyasCard.lean, 'card_holds'). Laid BY PROGRAM, IN A SANDBOX (cutbox-door.mjs). By AI agents, Wed Nov 11 2026. No macro, syntax, notation, axiom, sorry.
-/
import Derived.Test.Qxb6628467aFmtRows
import GoSem.ClaimSeven
namespace Go.Proofs.Qxb6628467aFmt
namespace Rows

/-- THE TOLD CARD OF 'zzlaws_internal_conf_b1.FnCheckAllReadUnreadInsertedAnywhere'. -/
def fnCheckAllReadUnreadInsertedAnywhereCard : Claim7 := { stood := { row := fnCheckAllReadUnreadInsertedAnywhereRow, standIns := [], harness := (true, "c6a9cb10146497109e344e2a9abffdaa717a98b0fc4a9917e1e226cb3b2e0a81"), looks := false }, told := true, goes := false }
def FnCheckAllReadUnreadInsertedAnywhereToldSaid : Prop := Claim7.holds Tryf.pinned (.plain (OpenSpec.ofChange fnCheckAllReadUnreadInsertedAnywhereSpec)) fnCheckAllReadUnreadInsertedAnywhereCard
/-- ITS FALSE NEIGHBOUR. Refute it at one input. -/
def FnCheckAllReadUnreadInsertedAnywhereToldWrongFalsely : Prop := Claim7.holds Tryf.pinned (.plain (OpenSpec.ofChange fnCheckAllReadUnreadInsertedAnywhereWrong)) fnCheckAllReadUnreadInsertedAnywhereCard

/-- THE TOLD CARD OF 'zzlaws_internal_conf_b1.FnCheckAllReadSplitAtAnyCut'. -/
def fnCheckAllReadSplitAtAnyCutCard : Claim7 := { stood := { row := fnCheckAllReadSplitAtAnyCutRow, standIns := [], harness := (true, "c6a9cb10146497109e344e2a9abffdaa717a98b0fc4a9917e1e226cb3b2e0a81"), looks := false }, told := true, goes := false }
def FnCheckAllReadSplitAtAnyCutToldSaid : Prop := Claim7.holds Tryf.pinned (.plain (OpenSpec.ofChange fnCheckAllReadSplitAtAnyCutSpec)) fnCheckAllReadSplitAtAnyCutCard
/-- ITS FALSE NEIGHBOUR. Refute it at one input. -/
def FnCheckAllReadSplitAtAnyCutToldWrongFalsely : Prop := Claim7.holds Tryf.pinned (.plain (OpenSpec.ofChange fnCheckAllReadSplitAtAnyCutWrong)) fnCheckAllReadSplitAtAnyCutCard
end Rows
end Go.Proofs.Qxb6628467aFmt
