/-
  DERIVED. GIVEN WITH THE SEED: THE CARDS: each row of Qxb6618722aFmtRows.lean that lists a variable, with what it lists TIED to the program's text (the seventh form; the later family's looks); each row that meets fmt, with fmt's text TOLD by the authors' own Lean function (tested against real Go, not proved from fmt's source: count such statements apart). THE CARD IS WHAT COUNTS. Prove the row's statement (the work); the ties are given (Qxb6618722aFmtTie.lean); close each card by the builder's one call (the guide's Derived/Test/ToyasCard.lean, 'card_holds'). Laid BY PROGRAM, IN A SANDBOX (cutbox-door.mjs). By AI agents, Wed Nov 11 2026. No macro, syntax, notation, axiom, sorry.
-/
import Derived.Test.Qxb6618722aFmtRows
import GoSem.ClaimSeven
namespace Go.Proofs.Qxb6618722aFmt
namespace Rows

/-- THE TOLD CARD OF 'zzlaws_root_b1.FnKeepAnswerKeepsFirstRefusesOther'. -/
def fnKeepAnswerKeepsFirstRefusesOtherCard : Claim7 := { stood := { row := fnKeepAnswerKeepsFirstRefusesOtherRow, standIns := [], harness := (true, "bfe62e6b60971e638e1da751a47e7540bc9e9399a3c7380f9c58ee81da652eb6"), looks := false }, told := true, goes := false }
def FnKeepAnswerKeepsFirstRefusesOtherToldSaid : Prop := Claim7.holds Tryf.pinned (.plain (OpenSpec.ofChange fnKeepAnswerKeepsFirstRefusesOtherSpec)) fnKeepAnswerKeepsFirstRefusesOtherCard
/-- ITS FALSE NEIGHBOUR. Refute it at one input. -/
def FnKeepAnswerKeepsFirstRefusesOtherToldWrongFalsely : Prop := Claim7.holds Tryf.pinned (.plain (OpenSpec.ofChange fnKeepAnswerKeepsFirstRefusesOtherWrong)) fnKeepAnswerKeepsFirstRefusesOtherCard

/-- THE TOLD CARD OF 'zzlaws_root_b1.FnKeepAnswerReplayChangesNothing'. -/
def fnKeepAnswerReplayChangesNothingCard : Claim7 := { stood := { row := fnKeepAnswerReplayChangesNothingRow, standIns := [], harness := (true, "bfe62e6b60971e638e1da751a47e7540bc9e9399a3c7380f9c58ee81da652eb6"), looks := false }, told := true, goes := false }
def FnKeepAnswerReplayChangesNothingToldSaid : Prop := Claim7.holds Tryf.pinned (.plain (OpenSpec.ofChange fnKeepAnswerReplayChangesNothingSpec)) fnKeepAnswerReplayChangesNothingCard
/-- ITS FALSE NEIGHBOUR. Refute it at one input. -/
def FnKeepAnswerReplayChangesNothingToldWrongFalsely : Prop := Claim7.holds Tryf.pinned (.plain (OpenSpec.ofChange fnKeepAnswerReplayChangesNothingWrong)) fnKeepAnswerReplayChangesNothingCard

/-- THE TOLD AND TIED CARD OF 'zzlaws_root_b1.FnReadListedReadsWhatStringWrote'. -/
def fnReadListedReadsWhatStringWroteCard : Claim7 := { stood := { row := fnReadListedReadsWhatStringWroteRow, standIns := [], harness := (true, "bfe62e6b60971e638e1da751a47e7540bc9e9399a3c7380f9c58ee81da652eb6"), looks := false }, told := true, laidByText := true, laidKinds := [.listed, .data, .called], laidTests := true, laidLooks := .later, goes := false }
def FnReadListedReadsWhatStringWroteToldSaid : Prop := Claim7.holds Tryf.pinned (.plain (OpenSpec.ofChange fnReadListedReadsWhatStringWroteSpec)) fnReadListedReadsWhatStringWroteCard
/-- ITS FALSE NEIGHBOUR. Refute it at one input. -/
def FnReadListedReadsWhatStringWroteToldWrongFalsely : Prop := Claim7.holds Tryf.pinned (.plain (OpenSpec.ofChange fnReadListedReadsWhatStringWroteWrong)) fnReadListedReadsWhatStringWroteCard
end Rows
end Go.Proofs.Qxb6618722aFmt
