/-
  No cell of these rows narrows 'for every input' (looked for: loops, veiled, ifaces, maps, wideKeys, modest, calm, conditions, laid).
  DERIVED. THE GIVEN ROWS OF THIS SEAT. 2 by the template 'for every input the law returns true; each argument reads behind the call as it read before'; 0 by the template 'total and deterministic' (their statements: Qxb6615824aTotals.lean).
  GIVEN WITH THE SEED: the statements are not yours to turn. If you find one false, say at which input.
  Laid BY PROGRAM, IN A SANDBOX (cutbox-rows.mjs): the forced cells as the released guide's own fill.sh prints them over the translation ff6335f3f8ec6f8b… (all of the seat's roots in one cut). By AI agents, Wed Nov 11 2026. No macro, syntax, notation, axiom, sorry.
-/
import Derived.Test.Qxb6615824aChecked
import GoSem.Claim
import GoSem.ClaimJoined
import GoSem.ClaimMapViews
import Derived.JoinedTies
import Derived.KernelRfl
namespace Go.Proofs.Qxb6615824a
/- THE CELL 'sum', in the pinned program and in every row, IS THE sha256 OF THE DUMP (.gsa) THAT Qxb6615824aProg.lean LOADS. Nothing in Lean hashes anything: it is a label: what it is worth is what the hold of that sum in a sandbox is worth. -/
noncomputable def Try.pinned : Pinned := { name := "qxb6615824a", sum := "ff6335f3f8ec6f8bd4d2583b3f18b01fc1a06eec655b1898582e69fea1599874", checked := Try.checked }
namespace Rows
def none {H : Type} : Left H := { results := [], args := [] }

/-- 'zzlaws_internal_collation_b1.FnCharsetOfOfAJoinedName': WHATEVER THE INPUT: true; the input reads as it did. -/
def fnCharsetOfOfAJoinedNameSpec : ChangeSpec := { name := "fnCharsetOfOfAJoinedName", fn := fun _ => fun
  | [d1, d2] => { results := [.lit (.bool true)], args := [d1, d2] }
  | _ => none }
def fnCharsetOfOfAJoinedNameRow : OpenClaim := { program := "qxb6615824a", sum := "ff6335f3f8ec6f8bd4d2583b3f18b01fc1a06eec655b1898582e69fea1599874", func := "example.com/sievelog/sievelog/zzlaws_internal_collation_b1.FnCharsetOfOfAJoinedName", spec := "fnCharsetOfOfAJoinedName", inPlace := ["internal/bytealg.IndexByteString", "internal/bytealg.IndexString"], named := ["internal/bytealg.MaxLen"], apart := false }
def FnCharsetOfOfAJoinedNameSaid : Prop := fnCharsetOfOfAJoinedNameRow.holds Try.pinned (OpenSpec.ofChange fnCharsetOfOfAJoinedNameSpec)

/-- ITS FALSE NEIGHBOUR: 'it returns false'. Refute it at one input. -/
def fnCharsetOfOfAJoinedNameWrong : ChangeSpec := { name := "fnCharsetOfOfAJoinedName", fn := fun _ => fun
  | [d1, d2] => { results := [.lit (.bool false)], args := [d1, d2] }
  | _ => none }
def FnCharsetOfOfAJoinedNameWrongFalsely : Prop := fnCharsetOfOfAJoinedNameRow.holds Try.pinned (OpenSpec.ofChange fnCharsetOfOfAJoinedNameWrong)

/-- 'zzlaws_internal_collation_b1.FnAppendBytesKeepsTheOrderOfValues': WHATEVER THE INPUT: true; the input reads as it did. -/
def fnAppendBytesKeepsTheOrderOfValuesSpec : ChangeSpec := { name := "fnAppendBytesKeepsTheOrderOfValues", fn := fun _ => fun
  | [d1, d2, d3] => { results := [.lit (.bool true)], args := [d1, d2, d3] }
  | _ => none }
def fnAppendBytesKeepsTheOrderOfValuesRow : OpenClaim := { program := "qxb6615824a", sum := "ff6335f3f8ec6f8bd4d2583b3f18b01fc1a06eec655b1898582e69fea1599874", func := "example.com/sievelog/sievelog/zzlaws_internal_collation_b1.FnAppendBytesKeepsTheOrderOfValues", spec := "fnAppendBytesKeepsTheOrderOfValues", apart := false }
def FnAppendBytesKeepsTheOrderOfValuesSaid : Prop := fnAppendBytesKeepsTheOrderOfValuesRow.holds Try.pinned (OpenSpec.ofChange fnAppendBytesKeepsTheOrderOfValuesSpec)

/-- ITS FALSE NEIGHBOUR: 'it returns false'. Refute it at one input. -/
def fnAppendBytesKeepsTheOrderOfValuesWrong : ChangeSpec := { name := "fnAppendBytesKeepsTheOrderOfValues", fn := fun _ => fun
  | [d1, d2, d3] => { results := [.lit (.bool false)], args := [d1, d2, d3] }
  | _ => none }
def FnAppendBytesKeepsTheOrderOfValuesWrongFalsely : Prop := fnAppendBytesKeepsTheOrderOfValuesRow.holds Try.pinned (OpenSpec.ofChange fnAppendBytesKeepsTheOrderOfValuesWrong)

end Rows
end Go.Proofs.Qxb6615824a
