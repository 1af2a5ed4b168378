/-
  No cell of these rows narrows 'for every input' (looked for: loops, veiled, ifaces, maps, wideKeys, modest, calm, conditions, laid).
  DERIVED. THE GIVEN ROWS OF THIS SEAT. 1 by the template 'for every input the law returns true; each argument reads behind the call as it read before'; 0 by the template 'total and deterministic' (their statements: Qxb6614809aTotals.lean).
  GIVEN WITH THE SEED: the statements are not yours to turn. If you find one false, say at which input.
  Laid BY PROGRAM, IN A SANDBOX (cutbox-rows.mjs): the forced cells as the released guide's own fill.sh prints them over the translation 24a7da80116e77cb… (all of the seat's roots in one cut). By AI agents, Wed Nov 11 2026. No macro, syntax, notation, axiom, sorry.
-/
import Derived.Test.Qxb6614809aChecked
import GoSem.Claim
import GoSem.ClaimJoined
import GoSem.ClaimMapViews
import Derived.JoinedTies
import Derived.KernelRfl
namespace Go.Proofs.Qxb6614809a
/- THE CELL 'sum', in the pinned program and in every row, IS THE sha256 OF THE DUMP (.gsa) THAT Qxb6614809aProg.lean LOADS. Nothing in Lean hashes anything: it is a label: what it is worth is what the hold of that sum in a sandbox is worth. -/
noncomputable def Try.pinned : Pinned := { name := "qxb6614809a", sum := "24a7da80116e77cba9e5e2839709ee9a740b9a3869d400ce97bad4196856472d", checked := Try.checked }
namespace Rows
def none {H : Type} : Left H := { results := [], args := [] }

/-- 'zzlaws_sim_b1.FnCancelEndExact': WHATEVER THE INPUT: true; the input reads as it did. -/
def fnCancelEndExactSpec : ChangeSpec := { name := "fnCancelEndExact", fn := fun _ => fun
  | [d1, d2, d3, d4, d5, d6] => { results := [.lit (.bool true)], args := [d1, d2, d3, d4, d5, d6] }
  | _ => none }
def fnCancelEndExactRow : OpenClaim := { program := "qxb6614809a", sum := "24a7da80116e77cba9e5e2839709ee9a740b9a3869d400ce97bad4196856472d", func := "example.com/vigilant-scheduler/vigilant-scheduler/zzlaws_sim_b1.FnCancelEndExact", spec := "fnCancelEndExact", unfollowed := true, recurses := true, apart := false }
def FnCancelEndExactSaid : Prop := fnCancelEndExactRow.holds Try.pinned (OpenSpec.ofChange fnCancelEndExactSpec)

/-- ITS FALSE NEIGHBOUR: 'it returns false'. Refute it at one input. -/
def fnCancelEndExactWrong : ChangeSpec := { name := "fnCancelEndExact", fn := fun _ => fun
  | [d1, d2, d3, d4, d5, d6] => { results := [.lit (.bool false)], args := [d1, d2, d3, d4, d5, d6] }
  | _ => none }
def FnCancelEndExactWrongFalsely : Prop := fnCancelEndExactRow.holds Try.pinned (OpenSpec.ofChange fnCancelEndExactWrong)

end Rows
end Go.Proofs.Qxb6614809a
