/-
  No cell of these rows narrows 'for every input' (looked for: loops, veiled, ifaces, maps, wideKeys, modest, calm, conditions, laid).
  DERIVED. THE GIVEN ROWS OF THIS SEAT. 2 by the template 'for every input the law returns true; each argument reads behind the call as it read before'; 0 by the template 'total and deterministic' (their statements: Qxb6615841aGreatTotals.lean).
  GIVEN WITH THE SEED: the statements are not yours to turn. If you find one false, say at which input.
  Laid BY PROGRAM, IN A SANDBOX (cutbox-rows.mjs): the forced cells as the released guide's own fill.sh prints them over the translation f6b7cdb7d2571603… (all of the seat's roots in one cut). By AI agents, Wed Nov 11 2026. No macro, syntax, notation, axiom, sorry.
-/
import Derived.Test.Qxb6615841aGreatChecked
import GoSem.Claim
import GoSem.ClaimJoined
import GoSem.ClaimMapViews
import Derived.JoinedTies
import Derived.KernelRfl
namespace Go.Proofs.Qxb6615841aGreat
/- THE CELL 'sum', in the pinned program and in every row, IS THE sha256 OF THE DUMP (.gsa) THAT Qxb6615841aGreatProg.lean LOADS. Nothing in Lean hashes anything: it is a label: what it is worth is what the hold of that sum in a sandbox is worth. -/
noncomputable def Tryz.pinned : Pinned := { name := "qxb6615841agreat", sum := "f6b7cdb7d2571603a067a9faf9dd2eea2df2160920de91001e55a2b14c852568", checked := Tryz.checked }
namespace Rows
def none {H : Type} : Left H := { results := [], args := [] }

/-- 'zzlaws_internal_resolve_b1.FnOwnersSplitsAtAnyCut': WHATEVER THE INPUT: true; the input reads as it did. -/
def fnOwnersSplitsAtAnyCutSpec : ChangeSpec := { name := "fnOwnersSplitsAtAnyCut", fn := fun _ => fun
  | [d1, d2] => { results := [.lit (.bool true)], args := [d1, d2] }
  | _ => none }
def fnOwnersSplitsAtAnyCutRow : OpenClaim := { program := "qxb6615841agreat", sum := "f6b7cdb7d2571603a067a9faf9dd2eea2df2160920de91001e55a2b14c852568", func := "roux.example/roux/zzlaws_internal_resolve_b1.FnOwnersSplitsAtAnyCut", spec := "fnOwnersSplitsAtAnyCut", plainKeys := false, apart := false }
def FnOwnersSplitsAtAnyCutSaid : Prop := fnOwnersSplitsAtAnyCutRow.holds Tryz.pinned (OpenSpec.ofChange fnOwnersSplitsAtAnyCutSpec)

/-- ITS FALSE NEIGHBOUR: 'it returns false'. Refute it at one input. -/
def fnOwnersSplitsAtAnyCutWrong : ChangeSpec := { name := "fnOwnersSplitsAtAnyCut", fn := fun _ => fun
  | [d1, d2] => { results := [.lit (.bool false)], args := [d1, d2] }
  | _ => none }
def FnOwnersSplitsAtAnyCutWrongFalsely : Prop := fnOwnersSplitsAtAnyCutRow.holds Tryz.pinned (OpenSpec.ofChange fnOwnersSplitsAtAnyCutWrong)

/-- 'zzlaws_internal_resolve_b1.FnOwnersInsertOneStep': WHATEVER THE INPUT: true; the input reads as it did. -/
def fnOwnersInsertOneStepSpec : ChangeSpec := { name := "fnOwnersInsertOneStep", fn := fun _ => fun
  | [d1, d2, d3] => { results := [.lit (.bool true)], args := [d1, d2, d3] }
  | _ => none }
def fnOwnersInsertOneStepRow : OpenClaim := { program := "qxb6615841agreat", sum := "f6b7cdb7d2571603a067a9faf9dd2eea2df2160920de91001e55a2b14c852568", func := "roux.example/roux/zzlaws_internal_resolve_b1.FnOwnersInsertOneStep", spec := "fnOwnersInsertOneStep", plainKeys := false, apart := false }
def FnOwnersInsertOneStepSaid : Prop := fnOwnersInsertOneStepRow.holds Tryz.pinned (OpenSpec.ofChange fnOwnersInsertOneStepSpec)

/-- ITS FALSE NEIGHBOUR: 'it returns false'. Refute it at one input. -/
def fnOwnersInsertOneStepWrong : ChangeSpec := { name := "fnOwnersInsertOneStep", fn := fun _ => fun
  | [d1, d2, d3] => { results := [.lit (.bool false)], args := [d1, d2, d3] }
  | _ => none }
def FnOwnersInsertOneStepWrongFalsely : Prop := fnOwnersInsertOneStepRow.holds Tryz.pinned (OpenSpec.ofChange fnOwnersInsertOneStepWrong)

end Rows
end Go.Proofs.Qxb6615841aGreat
