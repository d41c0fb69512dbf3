/-
  DERIVED. GIVEN WITH THE SEED: THE CARDS: each row of Qxb6618665aDoorRows.lean that lists a variable, with what it lists TIED to the program's text (the seventh form; the later family's looks); each row that meets fmt, with fmt's text TOLD by the authors' own Lean function (tested against real Go, not proved from fmt's source: count such statements apart). THE CARD IS WHAT COUNTS. Prove the row's statement (the work); the ties are given (Qxb6618665aDoorTie.lean); close each card by the builder's one call (the guide's Derived/Test/ToyasCard.lean, 'card_holds'). Laid BY PROGRAM, IN A SANDBOX (cutbox-door.mjs). By AI agents, Wed Nov 11 2026. No macro, syntax, notation, axiom, sorry.
-/
import Derived.Test.Qxb6618665aDoorRows
import GoSem.ClaimSeven
namespace Go.Proofs.Qxb6618665aDoor
namespace Rows

/-- THE TIED CARD OF 'zzlaws_jsonscan_b1.FnInputEOFWhenDataShorterThanDoubledRoom'. -/
def fnInputEOFWhenDataShorterThanDoubledRoomCard : Claim7 := { stood := { row := fnInputEOFWhenDataShorterThanDoubledRoomRow, standIns := [], harness := (true, "c1713e3525cc222c516a1deec23ced122198d856e3287aa930daef57774cc1c5"), looks := true }, kinds := [], alts := [], laidByText := true, laidKinds := [.sentinel, .sentinel, .sentinel], laidTests := true, laidLooks := .later }
def FnInputEOFWhenDataShorterThanDoubledRoomCardSaid : Prop := Claim7.holds Tryd.pinned (.plain (OpenSpec.ofChange fnInputEOFWhenDataShorterThanDoubledRoomSpec)) fnInputEOFWhenDataShorterThanDoubledRoomCard

/-- THE TIED CARD OF 'zzlaws_jsonscan_b1.FnInputSlidesInWindowsOfHeld'. -/
def fnInputSlidesInWindowsOfHeldCard : Claim7 := { stood := { row := fnInputSlidesInWindowsOfHeldRow, standIns := [], harness := (true, "c1713e3525cc222c516a1deec23ced122198d856e3287aa930daef57774cc1c5"), looks := true }, kinds := [], alts := [], laidByText := true, laidKinds := [.sentinel, .sentinel, .sentinel], laidTests := true, laidLooks := .later }
def FnInputSlidesInWindowsOfHeldCardSaid : Prop := Claim7.holds Tryd.pinned (.plain (OpenSpec.ofChange fnInputSlidesInWindowsOfHeldSpec)) fnInputSlidesInWindowsOfHeldCard
end Rows
end Go.Proofs.Qxb6618665aDoor
