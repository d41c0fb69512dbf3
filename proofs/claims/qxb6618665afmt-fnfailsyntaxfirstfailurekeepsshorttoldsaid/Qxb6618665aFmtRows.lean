/-
  No cell of these rows narrows 'for every input' (looked for: loops, veiled, ifaces, maps, wideKeys, modest, calm, conditions, laid).
  DERIVED. THE GIVEN ROWS OF THIS SEAT. 3 by the template 'for every input the law returns true; each argument reads behind the call as it read before'; 0 by the template 'total and deterministic' (their statements: Qxb6618665aFmtTotals.lean).
  GIVEN WITH THE SEED: the statements are not yours to turn. If you find one false, say at which input.
  Laid BY PROGRAM, IN A SANDBOX (cutbox-rows.mjs): the forced cells as the released guide's own fill.sh prints them over the translation 3ede3620f9e23a13… (all of the seat's roots in one cut). By AI agents, Wed Nov 11 2026. No macro, syntax, notation, axiom, sorry.
-/
import Derived.Test.Qxb6618665aFmtChecked
import GoSem.Claim
import GoSem.ClaimJoined
import GoSem.ClaimMapViews
import Derived.JoinedTies
import Derived.KernelRfl
namespace Go.Proofs.Qxb6618665aFmt
/- THE CELL 'sum', in the pinned program and in every row, IS THE sha256 OF THE DUMP (.gsa) THAT Qxb6618665aFmtProg.lean LOADS. Nothing in Lean hashes anything: it is a label: what it is worth is what the hold of that sum in a sandbox is worth. -/
noncomputable def Tryf.pinned : Pinned := { name := "qxb6618665afmt", sum := "3ede3620f9e23a130a1ac992b848222988749b75c51386da33739766c142c20c", checked := Tryf.checked }
namespace Rows
def none {H : Type} : Left H := { results := [], args := [] }

/-- 'zzlaws_jsonscan_b1.FnResetReusedScannerFailsAsAFreshOne': WHATEVER THE INPUT: true; the input reads as it did. -/
def fnResetReusedScannerFailsAsAFreshOneSpec : ChangeSpec := { name := "fnResetReusedScannerFailsAsAFreshOne", fn := fun _ => fun
  | [d1, d2, d3, d4, d5, d6] => { results := [.lit (.bool true)], args := [d1, d2, d3, d4, d5, d6] }
  | _ => none }
def fnResetReusedScannerFailsAsAFreshOneRow : OpenClaim := { program := "qxb6618665afmt", sum := "3ede3620f9e23a130a1ac992b848222988749b75c51386da33739766c142c20c", func := "example.com/envseam/envseam/zzlaws_jsonscan_b1.FnResetReusedScannerFailsAsAFreshOne", spec := "fnResetReusedScannerFailsAsAFreshOne", stops := ["fmt.Sprintf"], inPlace := ["fmt.Sprintf"], apart := false }
/-- NO THEOREM (fmt's text is open here; it may be false): for the released tool's asking of the row's closed facts alone. THE STATEMENT IS 'FnResetReusedScannerFailsAsAFreshOneToldSaid' (Qxb6618665aFmtCards.lean). -/
def FnResetReusedScannerFailsAsAFreshOneFormAsk : Prop := fnResetReusedScannerFailsAsAFreshOneRow.holds Tryf.pinned (OpenSpec.ofChange fnResetReusedScannerFailsAsAFreshOneSpec)

/-- ITS FALSE NEIGHBOUR: 'it returns false'. Refute it at one input. -/
def fnResetReusedScannerFailsAsAFreshOneWrong : ChangeSpec := { name := "fnResetReusedScannerFailsAsAFreshOne", fn := fun _ => fun
  | [d1, d2, d3, d4, d5, d6] => { results := [.lit (.bool false)], args := [d1, d2, d3, d4, d5, d6] }
  | _ => none }
def FnResetReusedScannerFailsAsAFreshOneWrongFormAsk : Prop := fnResetReusedScannerFailsAsAFreshOneRow.holds Tryf.pinned (OpenSpec.ofChange fnResetReusedScannerFailsAsAFreshOneWrong)

/-- 'zzlaws_jsonscan_b1.FnFailSyntaxFirstFailureKeepsShort': WHATEVER THE INPUT: true; the input reads as it did. -/
def fnFailSyntaxFirstFailureKeepsShortSpec : ChangeSpec := { name := "fnFailSyntaxFirstFailureKeepsShort", fn := fun _ => fun
  | [d1, d2, d3, d4] => { results := [.lit (.bool true)], args := [d1, d2, d3, d4] }
  | _ => none }
def fnFailSyntaxFirstFailureKeepsShortRow : OpenClaim := { program := "qxb6618665afmt", sum := "3ede3620f9e23a130a1ac992b848222988749b75c51386da33739766c142c20c", func := "example.com/envseam/envseam/zzlaws_jsonscan_b1.FnFailSyntaxFirstFailureKeepsShort", spec := "fnFailSyntaxFirstFailureKeepsShort", stops := ["fmt.Sprintf"], inPlace := ["fmt.Sprintf"], apart := false }
/-- NO THEOREM (fmt's text is open here; it may be false): for the released tool's asking of the row's closed facts alone. THE STATEMENT IS 'FnFailSyntaxFirstFailureKeepsShortToldSaid' (Qxb6618665aFmtCards.lean). -/
def FnFailSyntaxFirstFailureKeepsShortFormAsk : Prop := fnFailSyntaxFirstFailureKeepsShortRow.holds Tryf.pinned (OpenSpec.ofChange fnFailSyntaxFirstFailureKeepsShortSpec)

/-- ITS FALSE NEIGHBOUR: 'it returns false'. Refute it at one input. -/
def fnFailSyntaxFirstFailureKeepsShortWrong : ChangeSpec := { name := "fnFailSyntaxFirstFailureKeepsShort", fn := fun _ => fun
  | [d1, d2, d3, d4] => { results := [.lit (.bool false)], args := [d1, d2, d3, d4] }
  | _ => none }
def FnFailSyntaxFirstFailureKeepsShortWrongFormAsk : Prop := fnFailSyntaxFirstFailureKeepsShortRow.holds Tryf.pinned (OpenSpec.ofChange fnFailSyntaxFirstFailureKeepsShortWrong)

/-- 'zzlaws_jsonscan_b1.FnFailSyntaxOneByteMoreMovesTheFailure': WHATEVER THE INPUT: true; the input reads as it did. -/
def fnFailSyntaxOneByteMoreMovesTheFailureSpec : ChangeSpec := { name := "fnFailSyntaxOneByteMoreMovesTheFailure", fn := fun _ => fun
  | [d1, d2, d3, d4] => { results := [.lit (.bool true)], args := [d1, d2, d3, d4] }
  | _ => none }
def fnFailSyntaxOneByteMoreMovesTheFailureRow : OpenClaim := { program := "qxb6618665afmt", sum := "3ede3620f9e23a130a1ac992b848222988749b75c51386da33739766c142c20c", func := "example.com/envseam/envseam/zzlaws_jsonscan_b1.FnFailSyntaxOneByteMoreMovesTheFailure", spec := "fnFailSyntaxOneByteMoreMovesTheFailure", stops := ["fmt.Sprintf"], inPlace := ["fmt.Sprintf"], apart := false }
/-- NO THEOREM (fmt's text is open here; it may be false): for the released tool's asking of the row's closed facts alone. THE STATEMENT IS 'FnFailSyntaxOneByteMoreMovesTheFailureToldSaid' (Qxb6618665aFmtCards.lean). -/
def FnFailSyntaxOneByteMoreMovesTheFailureFormAsk : Prop := fnFailSyntaxOneByteMoreMovesTheFailureRow.holds Tryf.pinned (OpenSpec.ofChange fnFailSyntaxOneByteMoreMovesTheFailureSpec)

/-- ITS FALSE NEIGHBOUR: 'it returns false'. Refute it at one input. -/
def fnFailSyntaxOneByteMoreMovesTheFailureWrong : ChangeSpec := { name := "fnFailSyntaxOneByteMoreMovesTheFailure", fn := fun _ => fun
  | [d1, d2, d3, d4] => { results := [.lit (.bool false)], args := [d1, d2, d3, d4] }
  | _ => none }
def FnFailSyntaxOneByteMoreMovesTheFailureWrongFormAsk : Prop := fnFailSyntaxOneByteMoreMovesTheFailureRow.holds Tryf.pinned (OpenSpec.ofChange fnFailSyntaxOneByteMoreMovesTheFailureWrong)

end Rows
end Go.Proofs.Qxb6618665aFmt
