/-
  No cell of these rows narrows 'for every input' (looked for: loops, veiled, ifaces, maps, wideKeys, modest, calm, conditions, laid).
  DERIVED. THE GIVEN ROWS OF THIS SEAT. 1 by the template 'for every input the law returns true; each argument reads behind the call as it read before'; 0 by the template 'total and deterministic' (their statements: Qxb6618665aTotals.lean).
  GIVEN WITH THE SEED: the statements are not yours to turn. If you find one false, say at which input.
  Laid BY PROGRAM, IN A SANDBOX (cutbox-rows.mjs): the forced cells as the released guide's own fill.sh prints them over the translation 5d4a1af0c5070d28… (all of the seat's roots in one cut). By AI agents, Wed Nov 11 2026. No macro, syntax, notation, axiom, sorry.
-/
import Derived.Test.Qxb6618665aChecked
import GoSem.Claim
import GoSem.ClaimJoined
import GoSem.ClaimMapViews
import Derived.JoinedTies
import Derived.KernelRfl
namespace Go.Proofs.Qxb6618665a
/- THE CELL 'sum', in the pinned program and in every row, IS THE sha256 OF THE DUMP (.gsa) THAT Qxb6618665aProg.lean LOADS. Nothing in Lean hashes anything: it is a label: what it is worth is what the hold of that sum in a sandbox is worth. -/
noncomputable def Try.pinned : Pinned := { name := "qxb6618665a", sum := "5d4a1af0c5070d289b0de7e5f4b90bd9eb03929f798317642a742c7d4872a563", checked := Try.checked }
namespace Rows
def none {H : Type} : Left H := { results := [], args := [] }

/-- 'zzlaws_jsonscan_b1.FnSkipSpaceStopsAtFirstNonSpaceAtAnyCut': WHATEVER THE INPUT: true; the input reads as it did. -/
def fnSkipSpaceStopsAtFirstNonSpaceAtAnyCutSpec : ChangeSpec := { name := "fnSkipSpaceStopsAtFirstNonSpaceAtAnyCut", fn := fun _ => fun
  | [d1, d2, d3] => { results := [.lit (.bool true)], args := [d1, d2, d3] }
  | _ => none }
def fnSkipSpaceStopsAtFirstNonSpaceAtAnyCutRow : OpenClaim := { program := "qxb6618665a", sum := "5d4a1af0c5070d289b0de7e5f4b90bd9eb03929f798317642a742c7d4872a563", func := "example.com/envseam/envseam/zzlaws_jsonscan_b1.FnSkipSpaceStopsAtFirstNonSpaceAtAnyCut", spec := "fnSkipSpaceStopsAtFirstNonSpaceAtAnyCut", apart := false }
def FnSkipSpaceStopsAtFirstNonSpaceAtAnyCutSaid : Prop := fnSkipSpaceStopsAtFirstNonSpaceAtAnyCutRow.holds Try.pinned (OpenSpec.ofChange fnSkipSpaceStopsAtFirstNonSpaceAtAnyCutSpec)

/-- ITS FALSE NEIGHBOUR: 'it returns false'. Refute it at one input. -/
def fnSkipSpaceStopsAtFirstNonSpaceAtAnyCutWrong : ChangeSpec := { name := "fnSkipSpaceStopsAtFirstNonSpaceAtAnyCut", fn := fun _ => fun
  | [d1, d2, d3] => { results := [.lit (.bool false)], args := [d1, d2, d3] }
  | _ => none }
def FnSkipSpaceStopsAtFirstNonSpaceAtAnyCutWrongFalsely : Prop := fnSkipSpaceStopsAtFirstNonSpaceAtAnyCutRow.holds Try.pinned (OpenSpec.ofChange fnSkipSpaceStopsAtFirstNonSpaceAtAnyCutWrong)

end Rows
end Go.Proofs.Qxb6618665a
