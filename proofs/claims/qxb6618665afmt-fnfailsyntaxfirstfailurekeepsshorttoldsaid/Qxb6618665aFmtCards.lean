/-
  DERIVED. GIVEN WITH THE SEED: THE CARDS: each row of Qxb6618665aFmtRows.lean that lists a variable, with what it lists TIED to the program's text (the seventh form; the later family's looks); each row that meets fmt, with fmt's text TOLD by the authors' own Lean function (tested against real Go, not proved from fmt's source: count such statements apart). THE CARD IS WHAT COUNTS. Prove the row's statement (the work); the ties are given (Qxb6618665aFmtTie.lean); close each card by the builder's one call (the guide's Derived/Test/ToyasCard.lean, 'card_holds'). Laid BY PROGRAM, IN A SANDBOX (cutbox-door.mjs). By AI agents, Wed Nov 11 2026. No macro, syntax, notation, axiom, sorry.
-/
import Derived.Test.Qxb6618665aFmtRows
import GoSem.ClaimSeven
namespace Go.Proofs.Qxb6618665aFmt
namespace Rows

/-- THE TOLD CARD OF 'zzlaws_jsonscan_b1.FnResetReusedScannerFailsAsAFreshOne'. -/
def fnResetReusedScannerFailsAsAFreshOneCard : Claim7 := { stood := { row := fnResetReusedScannerFailsAsAFreshOneRow, standIns := [], harness := (true, "575ffe72a40bb85f1fea1c721682a13ee9ef808b047f551196e708481cf9063b"), looks := false }, told := true, goes := false }
def FnResetReusedScannerFailsAsAFreshOneToldSaid : Prop := Claim7.holds Tryf.pinned (.plain (OpenSpec.ofChange fnResetReusedScannerFailsAsAFreshOneSpec)) fnResetReusedScannerFailsAsAFreshOneCard
/-- ITS FALSE NEIGHBOUR. Refute it at one input. -/
def FnResetReusedScannerFailsAsAFreshOneToldWrongFalsely : Prop := Claim7.holds Tryf.pinned (.plain (OpenSpec.ofChange fnResetReusedScannerFailsAsAFreshOneWrong)) fnResetReusedScannerFailsAsAFreshOneCard

/-- THE TOLD CARD OF 'zzlaws_jsonscan_b1.FnFailSyntaxFirstFailureKeepsShort'. -/
def fnFailSyntaxFirstFailureKeepsShortCard : Claim7 := { stood := { row := fnFailSyntaxFirstFailureKeepsShortRow, standIns := [], harness := (true, "575ffe72a40bb85f1fea1c721682a13ee9ef808b047f551196e708481cf9063b"), looks := false }, told := true, goes := false }
def FnFailSyntaxFirstFailureKeepsShortToldSaid : Prop := Claim7.holds Tryf.pinned (.plain (OpenSpec.ofChange fnFailSyntaxFirstFailureKeepsShortSpec)) fnFailSyntaxFirstFailureKeepsShortCard
/-- ITS FALSE NEIGHBOUR. Refute it at one input. -/
def FnFailSyntaxFirstFailureKeepsShortToldWrongFalsely : Prop := Claim7.holds Tryf.pinned (.plain (OpenSpec.ofChange fnFailSyntaxFirstFailureKeepsShortWrong)) fnFailSyntaxFirstFailureKeepsShortCard

/-- THE TOLD CARD OF 'zzlaws_jsonscan_b1.FnFailSyntaxOneByteMoreMovesTheFailure'. -/
def fnFailSyntaxOneByteMoreMovesTheFailureCard : Claim7 := { stood := { row := fnFailSyntaxOneByteMoreMovesTheFailureRow, standIns := [], harness := (true, "575ffe72a40bb85f1fea1c721682a13ee9ef808b047f551196e708481cf9063b"), looks := false }, told := true, goes := false }
def FnFailSyntaxOneByteMoreMovesTheFailureToldSaid : Prop := Claim7.holds Tryf.pinned (.plain (OpenSpec.ofChange fnFailSyntaxOneByteMoreMovesTheFailureSpec)) fnFailSyntaxOneByteMoreMovesTheFailureCard
/-- ITS FALSE NEIGHBOUR. Refute it at one input. -/
def FnFailSyntaxOneByteMoreMovesTheFailureToldWrongFalsely : Prop := Claim7.holds Tryf.pinned (.plain (OpenSpec.ofChange fnFailSyntaxOneByteMoreMovesTheFailureWrong)) fnFailSyntaxOneByteMoreMovesTheFailureCard
end Rows
end Go.Proofs.Qxb6618665aFmt
