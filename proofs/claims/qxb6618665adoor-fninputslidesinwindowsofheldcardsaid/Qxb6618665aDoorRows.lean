/-
  NARROWER THAN 'FOR EVERY INPUT', by the rows' own cells (each row's printed sentence says how): FnInputEOFWhenDataShorterThanDoubledRoom: laid · FnInputSlidesInWindowsOfHeld: laid.
  DERIVED. THE GIVEN ROWS OF THIS SEAT. 2 by the template 'for every input the law returns true; each argument reads behind the call as it read before'; 0 by the template 'total and deterministic' (their statements: Qxb6618665aDoorTotals.lean).
  GIVEN WITH THE SEED: the statements are not yours to turn. If you find one false, say at which input.
  Laid BY PROGRAM, IN A SANDBOX (cutbox-rows.mjs): the forced cells as the released guide's own fill.sh prints them over the translation b0b91d8eef2395a9… (all of the seat's roots in one cut). By AI agents, Wed Nov 11 2026. No macro, syntax, notation, axiom, sorry.
-/
import Derived.Test.Qxb6618665aDoorChecked
import GoSem.Claim
import GoSem.ClaimJoined
import GoSem.ClaimMapViews
import Derived.JoinedTies
import Derived.KernelRfl
namespace Go.Proofs.Qxb6618665aDoor
/- THE CELL 'sum', in the pinned program and in every row, IS THE sha256 OF THE DUMP (.gsa) THAT Qxb6618665aDoorProg.lean LOADS. Nothing in Lean hashes anything: it is a label: what it is worth is what the hold of that sum in a sandbox is worth. -/
noncomputable def Tryd.pinned : Pinned := { name := "qxb6618665adoor", sum := "b0b91d8eef2395a98fbf4e03b55c8b05ee332077d2317510b83b07b52492b2b0", checked := Tryd.checked }
namespace Rows
def none {H : Type} : Left H := { results := [], args := [] }

/- WHAT THE LISTED PACKAGE-LEVEL VARIABLES READ AS WHEN THE CALL BEGINS. Each datum BY PROGRAM (the guide's laid-datum.mjs) off the statement by which the dump's own 'gosem.cut.vars' lays the variable. In a bare row this is a premise. The card (Qxb6618665aDoorCards.lean) ties it to the program's text. -/
def laid_io_ErrShortBuffer {H : Type} : DataW H := .iface "*errors.errorString" (.ptr (.agg [.lit (.string [115, 104, 111, 114, 116, 32, 98, 117, 102, 102, 101, 114])]))
def laid_io_EOF {H : Type} : DataW H := .iface "*errors.errorString" (.ptr (.agg [.lit (.string [69, 79, 70])]))
def laid_io_ErrUnexpectedEOF {H : Type} : DataW H := .iface "*errors.errorString" (.ptr (.agg [.lit (.string [117, 110, 101, 120, 112, 101, 99, 116, 101, 100, 32, 69, 79, 70])]))

/-- 'zzlaws_jsonscan_b1.FnInputEOFWhenDataShorterThanDoubledRoom': WHATEVER THE INPUT: true; the input reads as it did. -/
def fnInputEOFWhenDataShorterThanDoubledRoomSpec : ChangeSpec := { name := "fnInputEOFWhenDataShorterThanDoubledRoom", fn := fun _ => fun
  | [d1, d2, d3] => { results := [.lit (.bool true)], args := [d1, d2, d3] }
  | _ => none }
def fnInputEOFWhenDataShorterThanDoubledRoomRow : OpenClaim := { program := "qxb6618665adoor", sum := "b0b91d8eef2395a98fbf4e03b55c8b05ee332077d2317510b83b07b52492b2b0", func := "example.com/envseam/envseam/zzlaws_jsonscan_b1.FnInputEOFWhenDataShorterThanDoubledRoom", spec := "fnInputEOFWhenDataShorterThanDoubledRoom", inPlace := ["internal/reflectlite.TypeOf"], unfollowed := true, recurses := true, named := ["io.EOF", "io.ErrUnexpectedEOF", "io.ErrShortBuffer"], apart := false, laid := [("io.ErrShortBuffer", laid_io_ErrShortBuffer), ("io.EOF", laid_io_EOF), ("io.ErrUnexpectedEOF", laid_io_ErrUnexpectedEOF)] }
def FnInputEOFWhenDataShorterThanDoubledRoomSaid : Prop := fnInputEOFWhenDataShorterThanDoubledRoomRow.holds Tryd.pinned (OpenSpec.ofChange fnInputEOFWhenDataShorterThanDoubledRoomSpec)

/-- ITS FALSE NEIGHBOUR: 'it returns false'. Refute it at one input. -/
def fnInputEOFWhenDataShorterThanDoubledRoomWrong : ChangeSpec := { name := "fnInputEOFWhenDataShorterThanDoubledRoom", fn := fun _ => fun
  | [d1, d2, d3] => { results := [.lit (.bool false)], args := [d1, d2, d3] }
  | _ => none }
def FnInputEOFWhenDataShorterThanDoubledRoomWrongFalsely : Prop := fnInputEOFWhenDataShorterThanDoubledRoomRow.holds Tryd.pinned (OpenSpec.ofChange fnInputEOFWhenDataShorterThanDoubledRoomWrong)

/-- 'zzlaws_jsonscan_b1.FnInputSlidesInWindowsOfHeld': WHATEVER THE INPUT: true; the input reads as it did. -/
def fnInputSlidesInWindowsOfHeldSpec : ChangeSpec := { name := "fnInputSlidesInWindowsOfHeld", fn := fun _ => fun
  | [d1, d2, d3] => { results := [.lit (.bool true)], args := [d1, d2, d3] }
  | _ => none }
def fnInputSlidesInWindowsOfHeldRow : OpenClaim := { program := "qxb6618665adoor", sum := "b0b91d8eef2395a98fbf4e03b55c8b05ee332077d2317510b83b07b52492b2b0", func := "example.com/envseam/envseam/zzlaws_jsonscan_b1.FnInputSlidesInWindowsOfHeld", spec := "fnInputSlidesInWindowsOfHeld", inPlace := ["internal/reflectlite.TypeOf"], unfollowed := true, recurses := true, named := ["io.EOF", "io.ErrUnexpectedEOF", "io.ErrShortBuffer"], apart := false, laid := [("io.ErrShortBuffer", laid_io_ErrShortBuffer), ("io.EOF", laid_io_EOF), ("io.ErrUnexpectedEOF", laid_io_ErrUnexpectedEOF)] }
def FnInputSlidesInWindowsOfHeldSaid : Prop := fnInputSlidesInWindowsOfHeldRow.holds Tryd.pinned (OpenSpec.ofChange fnInputSlidesInWindowsOfHeldSpec)

/-- ITS FALSE NEIGHBOUR: 'it returns false'. Refute it at one input. -/
def fnInputSlidesInWindowsOfHeldWrong : ChangeSpec := { name := "fnInputSlidesInWindowsOfHeld", fn := fun _ => fun
  | [d1, d2, d3] => { results := [.lit (.bool false)], args := [d1, d2, d3] }
  | _ => none }
def FnInputSlidesInWindowsOfHeldWrongFalsely : Prop := fnInputSlidesInWindowsOfHeldRow.holds Tryd.pinned (OpenSpec.ofChange fnInputSlidesInWindowsOfHeldWrong)

end Rows
end Go.Proofs.Qxb6618665aDoor
