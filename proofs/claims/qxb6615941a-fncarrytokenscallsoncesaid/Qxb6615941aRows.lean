/-
  No cell of these rows narrows 'for every input' (looked for: loops, veiled, ifaces, maps, wideKeys, modest, calm, conditions, laid).
  DERIVED. THE GIVEN ROWS OF THIS SEAT. 1 by the template 'for every input the law returns true; each argument reads behind the call as it read before'; 0 by the template 'total and deterministic' (their statements: Qxb6615941aTotals.lean).
  GIVEN WITH THE SEED: the statements are not yours to turn. If you find one false, say at which input.
  Laid BY PROGRAM, IN A SANDBOX (cutbox-rows.mjs): the forced cells as the released guide's own fill.sh prints them over the translation e6c62785bb8f03ed… (all of the seat's roots in one cut). By AI agents, Wed Nov 11 2026. No macro, syntax, notation, axiom, sorry.
-/
import Derived.Test.Qxb6615941aChecked
import GoSem.Claim
import GoSem.ClaimJoined
import GoSem.ClaimMapViews
import Derived.JoinedTies
import Derived.KernelRfl
namespace Go.Proofs.Qxb6615941a
/- THE CELL 'sum', in the pinned program and in every row, IS THE sha256 OF THE DUMP (.gsa) THAT Qxb6615941aProg.lean LOADS. Nothing in Lean hashes anything: it is a label: what it is worth is what the hold of that sum in a sandbox is worth. -/
noncomputable def Try.pinned : Pinned := { name := "qxb6615941a", sum := "e6c62785bb8f03edbce05c15ae31aba75ce6d41abad32e2b10c45e23b93813e5", checked := Try.checked }
namespace Rows
def none {H : Type} : Left H := { results := [], args := [] }

/-- 'zzlaws_root_b1.FnCarryTokensCallsOnce': WHATEVER THE INPUT: true; the input reads as it did. -/
def fnCarryTokensCallsOnceSpec : ChangeSpec := { name := "fnCarryTokensCallsOnce", fn := fun _ => fun
  | [d] => { results := [.lit (.bool true)], args := [d] }
  | _ => none }
def fnCarryTokensCallsOnceRow : OpenClaim := { program := "qxb6615941a", sum := "e6c62785bb8f03edbce05c15ae31aba75ce6d41abad32e2b10c45e23b93813e5", func := "example.com/neat-injector/neat-injector/zzlaws_root_b1.FnCarryTokensCallsOnce", spec := "fnCarryTokensCallsOnce", unfollowed := true, recurses := true, apart := false }
def FnCarryTokensCallsOnceSaid : Prop := fnCarryTokensCallsOnceRow.holds Try.pinned (OpenSpec.ofChange fnCarryTokensCallsOnceSpec)

/-- ITS FALSE NEIGHBOUR: 'it returns false'. Refute it at one input. -/
def fnCarryTokensCallsOnceWrong : ChangeSpec := { name := "fnCarryTokensCallsOnce", fn := fun _ => fun
  | [d] => { results := [.lit (.bool false)], args := [d] }
  | _ => none }
def FnCarryTokensCallsOnceWrongFalsely : Prop := fnCarryTokensCallsOnceRow.holds Try.pinned (OpenSpec.ofChange fnCarryTokensCallsOnceWrong)

end Rows
end Go.Proofs.Qxb6615941a
