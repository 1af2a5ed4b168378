/-
  No cell of these rows narrows 'for every input' (looked for: loops, veiled, ifaces, maps, wideKeys, modest, calm, conditions, laid).
  DERIVED. THE GIVEN ROWS OF THIS SEAT. 4 by the template 'for every input the law returns true; each argument reads behind the call as it read before'; 0 by the template 'total and deterministic' (their statements: Qxb6615782aTotals.lean).
  GIVEN WITH THE SEED: the statements are not yours to turn. If you find one false, say at which input.
  Laid BY PROGRAM, IN A SANDBOX (cutbox-rows.mjs): the forced cells as the released guide's own fill.sh prints them over the translation f3bbfa478ded70bb… (all of the seat's roots in one cut). By AI agents, Wed Nov 11 2026. No macro, syntax, notation, axiom, sorry.
-/
import Derived.Test.Qxb6615782aChecked
import GoSem.Claim
import GoSem.ClaimJoined
import GoSem.ClaimMapViews
import Derived.JoinedTies
import Derived.KernelRfl
namespace Go.Proofs.Qxb6615782a
/- THE CELL 'sum', in the pinned program and in every row, IS THE sha256 OF THE DUMP (.gsa) THAT Qxb6615782aProg.lean LOADS. Nothing in Lean hashes anything: it is a label: what it is worth is what the hold of that sum in a sandbox is worth. -/
noncomputable def Try.pinned : Pinned := { name := "qxb6615782a", sum := "f3bbfa478ded70bbd83860dc410623126d5b7378f5d1242ba0e05815afee255f", checked := Try.checked }
namespace Rows
def none {H : Type} : Left H := { results := [], args := [] }

/-- 'zzlaws_root_b1.FnUntilFullLeastCoverAndShift': WHATEVER THE INPUT: true; the input reads as it did. -/
def fnUntilFullLeastCoverAndShiftSpec : ChangeSpec := { name := "fnUntilFullLeastCoverAndShift", fn := fun _ => fun
  | [d1, d2, d3, d4, d5, d6, d7, d8] => { results := [.lit (.bool true)], args := [d1, d2, d3, d4, d5, d6, d7, d8] }
  | _ => none }
def fnUntilFullLeastCoverAndShiftRow : OpenClaim := { program := "qxb6615782a", sum := "f3bbfa478ded70bbd83860dc410623126d5b7378f5d1242ba0e05815afee255f", func := "example.com/ration/ration/zzlaws_root_b1.FnUntilFullLeastCoverAndShift", spec := "fnUntilFullLeastCoverAndShift", plainKeys := false, apart := false }
def FnUntilFullLeastCoverAndShiftSaid : Prop := fnUntilFullLeastCoverAndShiftRow.holds Try.pinned (OpenSpec.ofChange fnUntilFullLeastCoverAndShiftSpec)

/-- ITS FALSE NEIGHBOUR: 'it returns false'. Refute it at one input. -/
def fnUntilFullLeastCoverAndShiftWrong : ChangeSpec := { name := "fnUntilFullLeastCoverAndShift", fn := fun _ => fun
  | [d1, d2, d3, d4, d5, d6, d7, d8] => { results := [.lit (.bool false)], args := [d1, d2, d3, d4, d5, d6, d7, d8] }
  | _ => none }
def FnUntilFullLeastCoverAndShiftWrongFalsely : Prop := fnUntilFullLeastCoverAndShiftRow.holds Try.pinned (OpenSpec.ofChange fnUntilFullLeastCoverAndShiftWrong)

/-- 'zzlaws_root_b1.FnUntilFullAddsWholeBuckets': WHATEVER THE INPUT: true; the input reads as it did. -/
def fnUntilFullAddsWholeBucketsSpec : ChangeSpec := { name := "fnUntilFullAddsWholeBuckets", fn := fun _ => fun
  | [d1, d2, d3, d4, d5, d6, d7, d8, d9] => { results := [.lit (.bool true)], args := [d1, d2, d3, d4, d5, d6, d7, d8, d9] }
  | _ => none }
def fnUntilFullAddsWholeBucketsRow : OpenClaim := { program := "qxb6615782a", sum := "f3bbfa478ded70bbd83860dc410623126d5b7378f5d1242ba0e05815afee255f", func := "example.com/ration/ration/zzlaws_root_b1.FnUntilFullAddsWholeBuckets", spec := "fnUntilFullAddsWholeBuckets", plainKeys := false, apart := false }
def FnUntilFullAddsWholeBucketsSaid : Prop := fnUntilFullAddsWholeBucketsRow.holds Try.pinned (OpenSpec.ofChange fnUntilFullAddsWholeBucketsSpec)

/-- ITS FALSE NEIGHBOUR: 'it returns false'. Refute it at one input. -/
def fnUntilFullAddsWholeBucketsWrong : ChangeSpec := { name := "fnUntilFullAddsWholeBuckets", fn := fun _ => fun
  | [d1, d2, d3, d4, d5, d6, d7, d8, d9] => { results := [.lit (.bool false)], args := [d1, d2, d3, d4, d5, d6, d7, d8, d9] }
  | _ => none }
def FnUntilFullAddsWholeBucketsWrongFalsely : Prop := fnUntilFullAddsWholeBucketsRow.holds Try.pinned (OpenSpec.ofChange fnUntilFullAddsWholeBucketsWrong)

/-- 'zzlaws_root_b1.FnStopSweepingClosesOnce': WHATEVER THE INPUT: true; the input reads as it did. -/
def fnStopSweepingClosesOnceSpec : ChangeSpec := { name := "fnStopSweepingClosesOnce", fn := fun _ => fun
  | [d1, d2] => { results := [.lit (.bool true)], args := [d1, d2] }
  | _ => none }
def fnStopSweepingClosesOnceRow : OpenClaim := { program := "qxb6615782a", sum := "f3bbfa478ded70bbd83860dc410623126d5b7378f5d1242ba0e05815afee255f", func := "example.com/ration/ration/zzlaws_root_b1.FnStopSweepingClosesOnce", spec := "fnStopSweepingClosesOnce", inPlace := ["sync/atomic.LoadUint32", "(*internal/sync.Mutex).Lock", "internal/race.Disable", "sync/atomic.CompareAndSwapInt32", "internal/race.Enable", "internal/race.Acquire", "(*internal/sync.Mutex).lockSlow", "internal/sync.runtime_canSpin", "internal/sync.runtime_doSpin", "internal/sync.throw", "internal/sync.runtime_nanotime", "internal/sync.runtime_SemacquireMutex", "sync/atomic.AddInt32", "(*internal/sync.Mutex).Unlock", "internal/race.ReleaseMerge", "(*internal/sync.Mutex).unlockSlow", "internal/sync.fatal", "internal/sync.runtime_Semrelease", "sync/atomic.StoreUint32"], unfollowed := true, recurses := true, plainKeys := false, apart := false }
def FnStopSweepingClosesOnceSaid : Prop := fnStopSweepingClosesOnceRow.holds Try.pinned (OpenSpec.ofChange fnStopSweepingClosesOnceSpec)

/-- ITS FALSE NEIGHBOUR: 'it returns false'. Refute it at one input. -/
def fnStopSweepingClosesOnceWrong : ChangeSpec := { name := "fnStopSweepingClosesOnce", fn := fun _ => fun
  | [d1, d2] => { results := [.lit (.bool false)], args := [d1, d2] }
  | _ => none }
def FnStopSweepingClosesOnceWrongFalsely : Prop := fnStopSweepingClosesOnceRow.holds Try.pinned (OpenSpec.ofChange fnStopSweepingClosesOnceWrong)

/-- 'zzlaws_root_b1.FnTallyOfScriptCountsDistinctNames': WHATEVER THE INPUT: true; the input reads as it did. -/
def fnTallyOfScriptCountsDistinctNamesSpec : ChangeSpec := { name := "fnTallyOfScriptCountsDistinctNames", fn := fun _ => fun
  | [d1, d2] => { results := [.lit (.bool true)], args := [d1, d2] }
  | _ => none }
def fnTallyOfScriptCountsDistinctNamesRow : OpenClaim := { program := "qxb6615782a", sum := "f3bbfa478ded70bbd83860dc410623126d5b7378f5d1242ba0e05815afee255f", func := "example.com/ration/ration/zzlaws_root_b1.FnTallyOfScriptCountsDistinctNames", spec := "fnTallyOfScriptCountsDistinctNames", inPlace := ["sync/atomic.StorePointer", "sync/atomic.LoadPointer", "(*internal/sync.Mutex).Lock", "internal/race.Disable", "sync/atomic.CompareAndSwapInt32", "internal/race.Enable", "internal/race.Acquire", "(*internal/sync.Mutex).lockSlow", "internal/sync.runtime_canSpin", "internal/sync.runtime_doSpin", "internal/sync.throw", "internal/sync.runtime_nanotime", "internal/sync.runtime_SemacquireMutex", "sync/atomic.AddInt32", "(*internal/sync.Mutex).Unlock", "internal/race.ReleaseMerge", "(*internal/sync.Mutex).unlockSlow", "internal/sync.fatal", "internal/sync.runtime_Semrelease", "maps.clone"], plainKeys := false, apart := false }
def FnTallyOfScriptCountsDistinctNamesSaid : Prop := fnTallyOfScriptCountsDistinctNamesRow.holds Try.pinned (OpenSpec.ofChange fnTallyOfScriptCountsDistinctNamesSpec)

/-- ITS FALSE NEIGHBOUR: 'it returns false'. Refute it at one input. -/
def fnTallyOfScriptCountsDistinctNamesWrong : ChangeSpec := { name := "fnTallyOfScriptCountsDistinctNames", fn := fun _ => fun
  | [d1, d2] => { results := [.lit (.bool false)], args := [d1, d2] }
  | _ => none }
def FnTallyOfScriptCountsDistinctNamesWrongFalsely : Prop := fnTallyOfScriptCountsDistinctNamesRow.holds Try.pinned (OpenSpec.ofChange fnTallyOfScriptCountsDistinctNamesWrong)

end Rows
end Go.Proofs.Qxb6615782a
