/-
  NARROWER THAN 'FOR EVERY INPUT', by the rows' own cells (each row's printed sentence says how): FnStatusGivesBackTheTextItWasReadFrom: laid.
  DERIVED. THE GIVEN ROWS OF THIS SEAT. 1 by the template 'for every input the law returns true; each argument reads behind the call as it read before'; 0 by the template 'total and deterministic' (their statements: Qxb6615588aFmtTotals.lean).
  GIVEN WITH THE SEED: the statements are not yours to turn. If you find one false, say at which input.
  Laid BY PROGRAM, IN A SANDBOX (cutbox-rows.mjs): the forced cells as the released guide's own fill.sh prints them over the translation 983f8eec8231630e… (all of the seat's roots in one cut). By AI agents, Wed Nov 11 2026. No macro, syntax, notation, axiom, sorry.
-/
import Derived.Test.Qxb6615588aFmtChecked
import GoSem.Claim
import GoSem.ClaimJoined
import GoSem.ClaimMapViews
import Derived.JoinedTies
import Derived.KernelRfl
namespace Go.Proofs.Qxb6615588aFmt
/- THE CELL 'sum', in the pinned program and in every row, IS THE sha256 OF THE DUMP (.gsa) THAT Qxb6615588aFmtProg.lean LOADS. Nothing in Lean hashes anything: it is a label: what it is worth is what the hold of that sum in a sandbox is worth. -/
noncomputable def Tryf.pinned : Pinned := { name := "qxb6615588afmt", sum := "983f8eec8231630e192f29c2d3a2408539cb5e3a51a459e7693bd500d9cd1f09", checked := Tryf.checked }
namespace Rows
def none {H : Type} : Left H := { results := [], args := [] }

/- WHAT THE LISTED PACKAGE-LEVEL VARIABLES READ AS WHEN THE CALL BEGINS. Each datum BY PROGRAM (the guide's laid-datum.mjs) off the statement by which the dump's own 'gosem.cut.vars' lays the variable. In a bare row this is a premise. The card (Qxb6615588aFmtCards.lean) ties it to the program's text. -/
def laid_example_com_rowcall_rowcall_internal_shift_statusTexts {H : Type} : DataW H := .agg [.lit (.string [116, 111, 100, 111]), .lit (.string [113, 97]), .lit (.string [100, 111, 110, 101]), .lit (.string [102, 97, 105, 108, 101, 100])]

/-- 'zzlaws_internal_shift_b1.FnStatusGivesBackTheTextItWasReadFrom': WHATEVER THE INPUT: true; the input reads as it did. -/
def fnStatusGivesBackTheTextItWasReadFromSpec : ChangeSpec := { name := "fnStatusGivesBackTheTextItWasReadFrom", vars := ["example.com/rowcall/rowcall/internal/shift.statusTexts"], fn := fun _ => fun
  | [d, g1] => { results := [.lit (.bool true)], args := [d], vars := [g1] }
  | _ => none }
def fnStatusGivesBackTheTextItWasReadFromRow : OpenClaim := { program := "qxb6615588afmt", sum := "983f8eec8231630e192f29c2d3a2408539cb5e3a51a459e7693bd500d9cd1f09", func := "example.com/rowcall/rowcall/zzlaws_internal_shift_b1.FnStatusGivesBackTheTextItWasReadFrom", spec := "fnStatusGivesBackTheTextItWasReadFrom", stops := ["fmt.Sprintf", "fmt.errorf"], inPlace := ["fmt.errorf", "fmt.Sprintf"], named := ["example.com/rowcall/rowcall/internal/shift.statusTexts"], plainKeys := false, apart := false, laid := [("example.com/rowcall/rowcall/internal/shift.statusTexts", laid_example_com_rowcall_rowcall_internal_shift_statusTexts)] }
/-- NO THEOREM (fmt's text is open here; it may be false): for the released tool's asking of the row's closed facts alone. THE STATEMENT IS 'FnStatusGivesBackTheTextItWasReadFromToldSaid' (Qxb6615588aFmtCards.lean). -/
def FnStatusGivesBackTheTextItWasReadFromFormAsk : Prop := fnStatusGivesBackTheTextItWasReadFromRow.holds Tryf.pinned (OpenSpec.ofChange fnStatusGivesBackTheTextItWasReadFromSpec)

/-- ITS FALSE NEIGHBOUR: 'it returns false'. Refute it at one input. -/
def fnStatusGivesBackTheTextItWasReadFromWrong : ChangeSpec := { name := "fnStatusGivesBackTheTextItWasReadFrom", vars := ["example.com/rowcall/rowcall/internal/shift.statusTexts"], fn := fun _ => fun
  | [d, g1] => { results := [.lit (.bool false)], args := [d], vars := [g1] }
  | _ => none }
def FnStatusGivesBackTheTextItWasReadFromWrongFormAsk : Prop := fnStatusGivesBackTheTextItWasReadFromRow.holds Tryf.pinned (OpenSpec.ofChange fnStatusGivesBackTheTextItWasReadFromWrong)

end Rows
end Go.Proofs.Qxb6615588aFmt
