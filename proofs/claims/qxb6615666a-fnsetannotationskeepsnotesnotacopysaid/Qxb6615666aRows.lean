/-
  No cell of these rows narrows 'for every input' (looked for: loops, veiled, ifaces, maps, wideKeys, modest, calm, conditions, laid).
  DERIVED. THE GIVEN ROWS OF THIS SEAT. 3 by the template 'for every input the law returns true; each argument reads behind the call as it read before'; 0 by the template 'total and deterministic' (their statements: Qxb6615666aTotals.lean).
  GIVEN WITH THE SEED: the statements are not yours to turn. If you find one false, say at which input.
  Laid BY PROGRAM, IN A SANDBOX (cutbox-rows.mjs): the forced cells as the released guide's own fill.sh prints them over the translation 67f8bdb150ea8df3… (all of the seat's roots in one cut). By AI agents, Wed Nov 11 2026. No macro, syntax, notation, axiom, sorry.
-/
import Derived.Test.Qxb6615666aChecked
import GoSem.Claim
import GoSem.ClaimJoined
import GoSem.ClaimMapViews
import Derived.JoinedTies
import Derived.KernelRfl
namespace Go.Proofs.Qxb6615666a
/- THE CELL 'sum', in the pinned program and in every row, IS THE sha256 OF THE DUMP (.gsa) THAT Qxb6615666aProg.lean LOADS. Nothing in Lean hashes anything: it is a label: what it is worth is what the hold of that sum in a sandbox is worth. -/
noncomputable def Try.pinned : Pinned := { name := "qxb6615666a", sum := "67f8bdb150ea8df33c8d4dd122984a5a16594f8fa26ca9b4caf0b4ceaa5bafb6", checked := Try.checked }
namespace Rows
def none {H : Type} : Left H := { results := [], args := [] }

/-- 'zzlaws_preserves_b1.FnPrefixKindsNeverSeparate': WHATEVER THE INPUT: true; the input reads as it did. -/
def fnPrefixKindsNeverSeparateSpec : ChangeSpec := { name := "fnPrefixKindsNeverSeparate", fn := fun _ => fun
  | [d1, d2] => { results := [.lit (.bool true)], args := [d1, d2] }
  | _ => none }
def fnPrefixKindsNeverSeparateRow : OpenClaim := { program := "qxb6615666a", sum := "67f8bdb150ea8df33c8d4dd122984a5a16594f8fa26ca9b4caf0b4ceaa5bafb6", func := "example.com/koeda/koeda/zzlaws_preserves_b1.FnPrefixKindsNeverSeparate", spec := "fnPrefixKindsNeverSeparate", apart := false }
def FnPrefixKindsNeverSeparateSaid : Prop := fnPrefixKindsNeverSeparateRow.holds Try.pinned (OpenSpec.ofChange fnPrefixKindsNeverSeparateSpec)

/-- ITS FALSE NEIGHBOUR: 'it returns false'. Refute it at one input. -/
def fnPrefixKindsNeverSeparateWrong : ChangeSpec := { name := "fnPrefixKindsNeverSeparate", fn := fun _ => fun
  | [d1, d2] => { results := [.lit (.bool false)], args := [d1, d2] }
  | _ => none }
def FnPrefixKindsNeverSeparateWrongFalsely : Prop := fnPrefixKindsNeverSeparateRow.holds Try.pinned (OpenSpec.ofChange fnPrefixKindsNeverSeparateWrong)

/-- 'zzlaws_preserves_b1.FnSetAnnotationsReplacesWhatWasSet': WHATEVER THE INPUT: true; the input reads as it did. -/
def fnSetAnnotationsReplacesWhatWasSetSpec : ChangeSpec := { name := "fnSetAnnotationsReplacesWhatWasSet", fn := fun _ => fun
  | [d1, d2] => { results := [.lit (.bool true)], args := [d1, d2] }
  | _ => none }
def fnSetAnnotationsReplacesWhatWasSetRow : OpenClaim := { program := "qxb6615666a", sum := "67f8bdb150ea8df33c8d4dd122984a5a16594f8fa26ca9b4caf0b4ceaa5bafb6", func := "example.com/koeda/koeda/zzlaws_preserves_b1.FnSetAnnotationsReplacesWhatWasSet", spec := "fnSetAnnotationsReplacesWhatWasSet", apart := false }
def FnSetAnnotationsReplacesWhatWasSetSaid : Prop := fnSetAnnotationsReplacesWhatWasSetRow.holds Try.pinned (OpenSpec.ofChange fnSetAnnotationsReplacesWhatWasSetSpec)

/-- ITS FALSE NEIGHBOUR: 'it returns false'. Refute it at one input. -/
def fnSetAnnotationsReplacesWhatWasSetWrong : ChangeSpec := { name := "fnSetAnnotationsReplacesWhatWasSet", fn := fun _ => fun
  | [d1, d2] => { results := [.lit (.bool false)], args := [d1, d2] }
  | _ => none }
def FnSetAnnotationsReplacesWhatWasSetWrongFalsely : Prop := fnSetAnnotationsReplacesWhatWasSetRow.holds Try.pinned (OpenSpec.ofChange fnSetAnnotationsReplacesWhatWasSetWrong)

/-- 'zzlaws_preserves_b1.FnSetAnnotationsKeepsNotesNotACopy': WHATEVER THE INPUT: true; the input reads as it did. -/
def fnSetAnnotationsKeepsNotesNotACopySpec : ChangeSpec := { name := "fnSetAnnotationsKeepsNotesNotACopy", fn := fun _ => fun
  | [d1, d2] => { results := [.lit (.bool true)], args := [d1, d2] }
  | _ => none }
def fnSetAnnotationsKeepsNotesNotACopyRow : OpenClaim := { program := "qxb6615666a", sum := "67f8bdb150ea8df33c8d4dd122984a5a16594f8fa26ca9b4caf0b4ceaa5bafb6", func := "example.com/koeda/koeda/zzlaws_preserves_b1.FnSetAnnotationsKeepsNotesNotACopy", spec := "fnSetAnnotationsKeepsNotesNotACopy", apart := false }
def FnSetAnnotationsKeepsNotesNotACopySaid : Prop := fnSetAnnotationsKeepsNotesNotACopyRow.holds Try.pinned (OpenSpec.ofChange fnSetAnnotationsKeepsNotesNotACopySpec)

/-- ITS FALSE NEIGHBOUR: 'it returns false'. Refute it at one input. -/
def fnSetAnnotationsKeepsNotesNotACopyWrong : ChangeSpec := { name := "fnSetAnnotationsKeepsNotesNotACopy", fn := fun _ => fun
  | [d1, d2] => { results := [.lit (.bool false)], args := [d1, d2] }
  | _ => none }
def FnSetAnnotationsKeepsNotesNotACopyWrongFalsely : Prop := fnSetAnnotationsKeepsNotesNotACopyRow.holds Try.pinned (OpenSpec.ofChange fnSetAnnotationsKeepsNotesNotACopyWrong)

end Rows
end Go.Proofs.Qxb6615666a
