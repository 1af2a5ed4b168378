/-
  ceilDiv, untilFull, ZZnewRate: contracts; the numbers.
-/
import Derived.Test.Qxb6615782aRows
import Derived.WalkKit
import Derived.WalkSpells
import Derived.Below
import Derived.Outline
import Derived.Deep.QuietTactic
import Derived.BigQuiet
namespace Go.Proofs.Qxb6615782a
open Go.RowKit
set_option linter.unusedVariables false

/-- a / b rounded up -/
def cdiv (a b : Int) : Int := if a % b = 0 then a / b else a / b + 1

theorem cdiv_spec {a b : Int} (ha : 0 ≤ a) (hb : 0 < b) : 0 ≤ cdiv a b ∧ cdiv a b ≤ a ∧ a ≤ cdiv a b * b ∧ cdiv a b * b < a + b := by
  have e := Int.mul_ediv_add_emod a b
  have r0 := Int.emod_nonneg a (Int.ne_of_gt hb)
  have r1 := Int.emod_lt_of_pos a hb
  have q0 := Int.ediv_nonneg ha (Int.le_of_lt hb)
  have hmul : a / b ≤ a / b * b := by
    have := Int.mul_le_mul_of_nonneg_left (show (1 : Int) ≤ b from hb) q0
    omega
  have hc : a / b * b = b * (a / b) := Int.mul_comm _ _
  unfold cdiv
  split
  · refine ⟨q0, by omega, by omega, by omega⟩
  · rw [Int.add_mul, Int.one_mul]
    refine ⟨by omega, ?_, by omega, by omega⟩
    omega
theorem cdiv_le {a b : Int} (ha : 0 ≤ a) (hb : 0 < b) : cdiv a b ≤ a / b + 1 := by unfold cdiv; split <;> omega
theorem cdiv_zero {a b : Int} (ha : 0 ≤ a) (hb : 0 < b) (h : cdiv a b = 0) : a = 0 := by
  have := cdiv_spec ha hb
  rw [h] at this
  omega
theorem cdiv_add {a b k : Int} (hb : 0 < b) : cdiv (a + k * b) b = cdiv a b + k := by
  unfold cdiv
  rw [Int.add_mul_emod_self_right, Int.add_mul_ediv_right _ _ (Int.ne_of_gt hb)]
  split <;> omega
theorem cdiv_exact {b k : Int} (hb : 0 < b) : cdiv (k * b) b = k := by
  have := cdiv_add (a := 0) (b := b) (k := k) hb
  rw [Int.zero_add] at this
  rw [this]
  simp [cdiv]

set_option maxHeartbeats 400000 in
theorem ceil_any (a b : Int) (w : World) (ha : 0 ≤ a) (hm : a ≤ 9223372036854775807) (hb : 0 < b) (hbm : b ≤ 9223372036854775807) :
    Calls Try.prog 24 #[.int .i64 a, .int .i64 b] w fun e w' => e = .returned (.int .i64 (cdiv a b)) ∧ w' = w := by
  have hq0 := Int.ediv_nonneg ha (Int.le_of_lt hb)
  have hq1 := Int.ediv_le_self b ha
  by_cases h : a % b = 0
  · have e : cdiv a b = a / b := by unfold cdiv; rw [if_pos h]
    rw [e]; clear e
    go_enter Try.func24, Try.ntmps24
    go_wp2
    go_ret
    exact ⟨rfl, rfl⟩
  · have e : cdiv a b = a / b + 1 := by unfold cdiv; rw [if_neg h]
    rw [e]; clear e
    have hb2 : (a % b != 0) = true := by simpa using h
    have hlt : a / b + 1 ≤ 9223372036854775807 := by
      have := cdiv_spec ha hb
      unfold cdiv at this
      rw [if_neg h] at this
      omega
    clear h
    go_enter Try.func24, Try.ntmps24
    go_wp2
    go_ret
    exact ⟨rfl, rfl⟩

set_option maxRecDepth 100000 in
set_option maxHeartbeats 400000 in
theorem until_any (g : Nat) (pn at_ ms : Int) (w : World) (hg : g < w.heap.size) (h : w.cell? ⟨g, 3, none⟩ = some (.int .i64 pn)) (ha : 0 ≤ ms) (hm : ms ≤ 9223372036854775807) (hb : 0 < pn) (hbm : pn ≤ 9223372036854775807) :
    Calls Try.prog 19 #[.pointer (some ⟨g, 0, none⟩), .agg #[.int .i64 at_, .int .i64 ms]] w fun e w' => e = .returned (.int .i64 (cdiv ms pn)) ∧ ∃ q, w' = (w.alloc (.cells #[.int .i64 at_, .int .i64 ms] 45)).drewN q := by
  go_enter Try.func19, Try.ntmps19
  go_wp2
  go_quiet ((go_at_call 24; exact Calls.quiet_of_same (ceil_any _ _ _ ha hm hb hbm)))
  go_wp2
  go_ret
  exact ⟨rfl, nq, rfl⟩

set_option maxRecDepth 100000 in
set_option maxHeartbeats 400000 in
theorem zzuntil_any (g : Nat) (pn at_ ms : Int) (w : World) (hg : g < w.heap.size) (h : w.cell? ⟨g, 3, none⟩ = some (.int .i64 pn)) (ha : 0 ≤ ms) (hm : ms ≤ 9223372036854775807) (hb : 0 < pn) (hbm : pn ≤ 9223372036854775807) :
    Calls Try.prog 9 #[.pointer (some ⟨g, 0, none⟩), .int .i64 at_, .int .i64 ms] w fun e w' => e = .returned (.int .i64 (cdiv ms pn)) ∧ ∃ q, w' = (w.alloc (.cells #[.int .i64 at_, .int .i64 ms] 45)).drewN q := by
  have H : Hid _ := until_any g pn at_ ms w hg h ha hm hb hbm
  clear h
  go_enter Try.func9, Try.ntmps9
  go_wp2_with fail
  refine Calls.mono (show Calls Try.prog 19 #[.pointer (some ⟨g, 0, none⟩), .agg #[.int .i64 at_, .int .i64 ms]] w (fun e w' => e = .returned (.int .i64 (cdiv ms pn)) ∧ ∃ q, w' = (w.alloc (.cells #[.int .i64 at_, .int .i64 ms] 45)).drewN q) from H.out) ?_
  rintro e w1 ⟨rfl, q, hq⟩
  have HQ : Hid (w1 = (w.alloc (.cells #[.int .i64 at_, .int .i64 ms] 45)).drewN q) := hq
  clear hq
  go_wp2
  go_ret
  exact ⟨rfl, q, HQ.out⟩

set_option maxHeartbeats 400000 in
theorem rate_any (l : Int) (s : ByteArray) (pt pn cp : Int) (w : World) :
    Calls Try.prog 8 #[.int .i64 l, .string s, .int .i64 pt, .int .i64 pn, .int .i64 cp] w fun e w' => e = .returned (.pointer (some ⟨w.heap.size, 0, none⟩)) ∧ w' = w.alloc (.cells #[.int .i64 l, .string s, .int .i64 pt, .int .i64 pn, .int .i64 cp] 42) := by
  go_enter Try.func8, Try.ntmps8
  go_wp2
  go_ret
  exact ⟨rfl, rfl⟩

end Go.Proofs.Qxb6615782a
