/-
  zzEventKey, zzEventBefore: the two functions of the queue.
-/
import Derived.Test.Qxb6614809aLeaf
import Derived.BigRegion
import Derived.Deep.RegionWith
namespace Go.Proofs.Qxb6614809a
open Go.RowKit
set_option linter.unusedVariables false

structure Ev where
  t : Int
  s : Int
  k : Int
  r : Int

def keyI (k r : Int) : Int := if k = 2 then r else -1
def Ev.key (x : Ev) : Int := keyI x.k x.r
def Ev.lt (x y : Ev) : Bool := beforeB x.t x.s y.t y.s

set_option maxHeartbeats 400000 in
theorem key_any (t s k r : Int) (w : World) :
    Calls Try.prog 17 #[.agg #[.int .i64 t, .int .u64 s, .int .u8 k, .int .i64 r]] w fun e w' => e = .returned (.int .i64 (keyI k r)) ∧ w' = w.alloc (.cells #[.int .i64 t, .int .u64 s, .int .u8 k, .int .i64 r] 46) := by
  by_cases h : k = 2
  · subst h
    have e1 : keyI 2 r = r := rfl
    rw [e1]; clear e1
    go_enter Try.func17, Try.ntmps17
    go_wp2
    go_ret
    exact ⟨rfl, rfl⟩
  · have e1 : keyI k r = -1 := by simp [keyI, h]
    rw [e1]; clear e1
    have hb : (k == 2) = false := by simpa using h
    clear h
    go_enter Try.func17, Try.ntmps17
    go_wp2
    go_ret
    exact ⟨rfl, rfl⟩

set_option maxHeartbeats 400000 in
theorem less_any (t1 s1 k1 r1 t2 s2 k2 r2 : Int) (w : World) :
    Calls Try.prog 16 #[.agg #[.int .i64 t1, .int .u64 s1, .int .u8 k1, .int .i64 r1], .agg #[.int .i64 t2, .int .u64 s2, .int .u8 k2, .int .i64 r2]] w fun e w' => e = .returned (.bool (beforeB t1 s1 t2 s2)) ∧
      w' = (w.alloc (.cells #[.int .i64 t1, .int .u64 s1, .int .u8 k1, .int .i64 r1] 46)).alloc (.cells #[.int .i64 t2, .int .u64 s2, .int .u8 k2, .int .i64 r2] 46) := by
  by_cases h1 : t1 < t2
  · have e1 : beforeB t1 s1 t2 s2 = true := by simp [beforeB, h1]
    rw [e1]; clear e1
    go_enter Try.func16, Try.ntmps16
    go_wp2
    go_ret
    exact ⟨rfl, rfl⟩
  · by_cases h2 : t1 = t2
    · subst h2
      have e1 : beforeB t1 s1 t1 s2 = decide (s1 < s2) := by simp [beforeB]
      rw [e1]; clear e1
      go_enter Try.func16, Try.ntmps16
      go_wp2
      go_ret
      exact ⟨rfl, rfl⟩
    · have e1 : beforeB t1 s1 t2 s2 = false := by simp [beforeB, h1, h2]
      rw [e1]; clear e1
      have h3 : (t1 == t2) = false := by simpa using h2
      clear h2
      go_enter Try.func16, Try.ntmps16
      go_wp2
      go_ret
      exact ⟨rfl, rfl⟩

end Go.Proofs.Qxb6614809a
