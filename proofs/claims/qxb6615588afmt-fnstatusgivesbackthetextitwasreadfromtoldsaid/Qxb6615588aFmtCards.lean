/-
  DERIVED. GIVEN WITH THE SEED: THE CARDS: each row of Qxb6615588aFmtRows.lean that lists a variable, with what it lists TIED to the program's text (the seventh form; the later family's looks); each row that meets fmt, with fmt's text TOLD by the authors' own Lean function (tested against real Go, not proved from fmt's source: count such statements apart). THE CARD IS WHAT COUNTS. Prove the row's statement (the work); the ties are given (Qxb6615588aFmtTie.lean); close each card by the builder's one call (the guide's Derived/Test/ToyasCard.lean, 'card_holds'). Laid BY PROGRAM, IN A SANDBOX (cutbox-door.mjs). By AI agents, Wed Nov 11 2026. No macro, syntax, notation, axiom, sorry.
-/
import Derived.Test.Qxb6615588aFmtRows
import GoSem.ClaimSeven
namespace Go.Proofs.Qxb6615588aFmt
namespace Rows

/-- THE TOLD AND TIED CARD OF 'zzlaws_internal_shift_b1.FnStatusGivesBackTheTextItWasReadFrom'. -/
def fnStatusGivesBackTheTextItWasReadFromCard : Claim7 := { stood := { row := fnStatusGivesBackTheTextItWasReadFromRow, standIns := [], harness := (true, "b6f90423e4adc2877b4320696edc93349b4fb7370544845de8aa7c4fd078cef2"), looks := false }, told := true, laidByText := true, laidKinds := [.widerDeep], laidTests := true, laidLooks := .later, goes := false }
def FnStatusGivesBackTheTextItWasReadFromToldSaid : Prop := Claim7.holds Tryf.pinned (.plain (OpenSpec.ofChange fnStatusGivesBackTheTextItWasReadFromSpec)) fnStatusGivesBackTheTextItWasReadFromCard
/-- ITS FALSE NEIGHBOUR. Refute it at one input. -/
def FnStatusGivesBackTheTextItWasReadFromToldWrongFalsely : Prop := Claim7.holds Tryf.pinned (.plain (OpenSpec.ofChange fnStatusGivesBackTheTextItWasReadFromWrong)) fnStatusGivesBackTheTextItWasReadFromCard
end Rows
end Go.Proofs.Qxb6615588aFmt
