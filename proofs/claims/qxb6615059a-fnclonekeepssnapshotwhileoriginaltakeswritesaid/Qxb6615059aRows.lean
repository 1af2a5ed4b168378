/-
  No cell of these rows narrows 'for every input' (looked for: loops, veiled, ifaces, maps, wideKeys, modest, calm, conditions, laid).
  DERIVED. THE GIVEN ROWS OF THIS SEAT. 1 by the template 'for every input the law returns true; each argument reads behind the call as it read before'; 0 by the template 'total and deterministic' (their statements: Qxb6615059aTotals.lean).
  GIVEN WITH THE SEED: the statements are not yours to turn. If you find one false, say at which input.
  Laid BY PROGRAM, IN A SANDBOX (cutbox-rows.mjs): the forced cells as the released guide's own fill.sh prints them over the translation e7d34629bdac6eeb… (all of the seat's roots in one cut). By AI agents, Wed Nov 11 2026. No macro, syntax, notation, axiom, sorry.
-/
import Derived.Test.Qxb6615059aChecked
import GoSem.Claim
import GoSem.ClaimJoined
import GoSem.ClaimMapViews
import Derived.JoinedTies
import Derived.KernelRfl
namespace Go.Proofs.Qxb6615059a
/- THE CELL 'sum', in the pinned program and in every row, IS THE sha256 OF THE DUMP (.gsa) THAT Qxb6615059aProg.lean LOADS. Nothing in Lean hashes anything: it is a label: what it is worth is what the hold of that sum in a sandbox is worth. -/
noncomputable def Try.pinned : Pinned := { name := "qxb6615059a", sum := "e7d34629bdac6eeb31ba414ecd6bd1ee8f3a6f9cdc0931910ca1e5df8e907d9d", checked := Try.checked }
namespace Rows
def none {H : Type} : Left H := { results := [], args := [] }

/-- 'zzlaws_internal_kv_b1.FnCloneKeepsSnapshotWhileOriginalTakesWrite': WHATEVER THE INPUT: true; the input reads as it did. -/
def fnCloneKeepsSnapshotWhileOriginalTakesWriteSpec : ChangeSpec := { name := "fnCloneKeepsSnapshotWhileOriginalTakesWrite", fn := fun _ => fun
  | [d1, d2, d3, d4, d5] => { results := [.lit (.bool true)], args := [d1, d2, d3, d4, d5] }
  | _ => none }
def fnCloneKeepsSnapshotWhileOriginalTakesWriteRow : OpenClaim := { program := "qxb6615059a", sum := "e7d34629bdac6eeb31ba414ecd6bd1ee8f3a6f9cdc0931910ca1e5df8e907d9d", func := "example.com/redoubt/redoubt/zzlaws_internal_kv_b1.FnCloneKeepsSnapshotWhileOriginalTakesWrite", spec := "fnCloneKeepsSnapshotWhileOriginalTakesWrite", inPlace := ["maps.clone"], apart := false }
def FnCloneKeepsSnapshotWhileOriginalTakesWriteSaid : Prop := fnCloneKeepsSnapshotWhileOriginalTakesWriteRow.holds Try.pinned (OpenSpec.ofChange fnCloneKeepsSnapshotWhileOriginalTakesWriteSpec)

/-- ITS FALSE NEIGHBOUR: 'it returns false'. Refute it at one input. -/
def fnCloneKeepsSnapshotWhileOriginalTakesWriteWrong : ChangeSpec := { name := "fnCloneKeepsSnapshotWhileOriginalTakesWrite", fn := fun _ => fun
  | [d1, d2, d3, d4, d5] => { results := [.lit (.bool false)], args := [d1, d2, d3, d4, d5] }
  | _ => none }
def FnCloneKeepsSnapshotWhileOriginalTakesWriteWrongFalsely : Prop := fnCloneKeepsSnapshotWhileOriginalTakesWriteRow.holds Try.pinned (OpenSpec.ofChange fnCloneKeepsSnapshotWhileOriginalTakesWriteWrong)

end Rows
end Go.Proofs.Qxb6615059a
