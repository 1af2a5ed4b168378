/-
  FnUntilFullAddsWholeBuckets: the walk.
-/
import Derived.Test.Qxb6615782aLeast
namespace Go.Proofs.Qxb6615782a
open Go.RowKit
set_option linter.unusedVariables false

set_option maxHeartbeats 400000 in
theorem bytes10 (a0 : Int) (s : ByteArray) (a2 a3 a4 a5 a6 a7 a8 : Int) (w : World) (hs : s.size ≤ maxLen) :
    Calls Try.prog 10 #[.int .i64 a0, .string s, .int .i64 a2, .int .i64 a3, .int .i64 a4, .int .i64 a5, .int .i64 a6, .int .i64 a7, .int .i64 a8] w fun e w' => BOut e ∧ w' = w := by
  unfold maxLen at hs
  go_enter Try.func10, Try.ntmps10
  go_wp2
  all_goals (go_ret; exact ⟨BOut.mk _, rfl⟩)

set_option maxRecDepth 100000 in
set_option maxHeartbeats 1000000 in
theorem adds_main (a0 : Int) (s : ByteArray) (pt pn cp at1 ms k at2 : Int) (w : World) (hs : s.size ≤ 1048576) (hpn : 0 < pn) (hpm : pn ≤ 9223372036854775807) (hms : 0 ≤ ms) (hmm : ms ≤ 9223372036854775807) (hk : 0 ≤ k) (hkm : k ≤ (9223372036854775807 - ms) / pn) :
    Calls Try.prog 4 #[.int .i64 a0, .string s, .int .i64 pt, .int .i64 pn, .int .i64 cp, .int .i64 at1, .int .i64 ms, .int .i64 k, .int .i64 at2] w fun e w' => e = .returned (.bool true) ∧ Grown w w' := by
  have HB : Hid (∀ w, Calls Try.prog 10 #[.int .i64 a0, .string s, .int .i64 pt, .int .i64 pn, .int .i64 cp, .int .i64 at1, .int .i64 ms, .int .i64 k, .int .i64 at2] w fun e w' => BOut e ∧ w' = w) := fun w => bytes10 a0 s pt pn cp at1 ms k at2 w (by unfold maxLen; omega)
  have hkp0 : 0 ≤ k * pn := Int.mul_nonneg hk (Int.le_of_lt hpn)
  have hkp1 : k * pn ≤ 9223372036854775807 - ms := by
    have h1 := Int.mul_le_mul_of_nonneg_right hkm (Int.le_of_lt hpn)
    have h2 := Int.ediv_mul_le (9223372036854775807 - ms) (Int.ne_of_gt hpn)
    omega
  have hkk : k ≤ 9223372036854775807 := by
    have := Int.mul_le_mul_of_nonneg_left (show (1 : Int) ≤ pn from hpn) hk
    omega
  obtain ⟨q0, q1, _, _⟩ := cdiv_spec hms hpn
  obtain ⟨r0, r1, _, _⟩ := cdiv_spec (show 0 ≤ ms + k * pn by omega) hpn
  rw [cdiv_add hpn] at r0 r1
  have HC1 : Hid (∀ g w, g < w.heap.size → w.cell? ⟨g, 3, none⟩ = some (.int .i64 pn) → Calls Try.prog 9 #[.pointer (some ⟨g, 0, none⟩), .int .i64 at1, .int .i64 ms] w fun e w' => e = .returned (.int .i64 (cdiv ms pn)) ∧ ∃ q, w' = (w.alloc (.cells #[.int .i64 at1, .int .i64 ms] 45)).drewN q) := fun g w hg h => zzuntil_any g pn at1 ms w hg h hms hmm hpn hpm
  have HC2 : Hid (∀ g w, g < w.heap.size → w.cell? ⟨g, 3, none⟩ = some (.int .i64 pn) → Calls Try.prog 9 #[.pointer (some ⟨g, 0, none⟩), .int .i64 at2, .int .i64 (ms + k * pn)] w fun e w' => e = .returned (.int .i64 (cdiv ms pn + k)) ∧ ∃ q, w' = (w.alloc (.cells #[.int .i64 at2, .int .i64 (ms + k * pn)] 45)).drewN q) := fun g w hg h => by
    rw [← cdiv_add hpn]
    exact zzuntil_any g pn at2 (ms + k * pn) w hg h (by omega) (by omega) hpn hpm
  have HC3 : Hid (∀ g w, g < w.heap.size → w.cell? ⟨g, 3, none⟩ = some (.int .i64 pn) → Calls Try.prog 9 #[.pointer (some ⟨g, 0, none⟩), .int .i64 at2, .int .i64 (k * pn)] w fun e w' => e = .returned (.int .i64 k) ∧ ∃ q, w' = (w.alloc (.cells #[.int .i64 at2, .int .i64 (k * pn)] 45)).drewN q) := fun g w hg h => by
    have := zzuntil_any g pn at2 (k * pn) w hg h (by omega) (by omega) hpn hpm
    rw [cdiv_exact hpn] at this
    exact this
  have step : ∀ (g : Nat) (wa : World) (o : Obj) (q : Nat), g < wa.heap.size → wa.cell? ⟨g, 3, none⟩ = some (.int .i64 pn) → ((wa.alloc o).drewN q).cell? ⟨g, 3, none⟩ = some (.int .i64 pn) ∧ g < ((wa.alloc o).drewN q).heap.size := by
    intro g wa o q hg hc
    have hb : Below wa.heap.size wa ((wa.alloc o).drewN q) := ⟨rfl, rfl, rfl, by show wa.heap.size ≤ (wa.heap.push _).size; simp, fun k hk => Below.heap_alloc _ _ _ hk⟩
    exact ⟨by rw [hb.cell (p := ⟨g, 3, none⟩) hg]; exact hc, Nat.lt_of_lt_of_le hg hb.size⟩
  have HSTEP : Hid _ := step
  clear step
  have hdv : (9223372036854775807 - ms) / pn ≤ 9223372036854775807 - ms := Int.ediv_le_self pn (by omega)
  have hdv0 : 0 ≤ (9223372036854775807 - ms) / pn := by omega
  generalize cdiv ms pn = q at *
  generalize hkp : k * pn = kp at *
  have hqk : q + k ≤ 9223372036854775807 := by omega
  have e1 : (q + k == q + k) = true := by simp
  have e2 : (k == k) = true := by simp
  go_enter Try.func4, Try.ntmps4
  go_wp2_with fail
  refine (HB.out _).mono ?_
  rintro e w' ⟨⟨b, rfl⟩, hw⟩
  rw [hw]; clear hw
  cases b
  · go_wp2
    go_ret
    exact ⟨rfl, Grown.refl _⟩
  go_wp2_with fail
  refine (rate_any _ _ _ _ _ _).mono ?_
  rintro e w1 ⟨rfl, hw1⟩
  have HW1 : Hid (w1 = w.alloc (.cells #[.int .i64 a0, .string s, .int .i64 pt, .int .i64 pn, .int .i64 cp] 42)) := hw1
  have H1 : Hid (w1.cell? ⟨w.heap.size, 3, none⟩ = some (.int .i64 pn) ∧ w.heap.size < w1.heap.size) := by rw [hw1]; exact ⟨by simp, by simp⟩
  clear hw1
  go_wp2_with fail
  refine (HC1.out _ _ H1.out.2 H1.out.1).mono ?_
  rintro e w2 ⟨rfl, q', hw2⟩
  have H2 : Hid (w2.cell? ⟨w.heap.size, 3, none⟩ = some (.int .i64 pn) ∧ w.heap.size < w2.heap.size) := by rw [hw2]; exact HSTEP.out _ _ _ _ H1.out.2 H1.out.1
  have HG2 : Hid (Grown w w2) := by rw [hw2, HW1.out]; exact Grown.drewN (((Grown.refl w).alloc _ _).alloc _ _) _
  clear hw2
  go_wp2_with fail
  refine (HC2.out _ _ H2.out.2 H2.out.1).mono ?_
  rintro e w3 ⟨rfl, q'', hw3⟩
  have H3 : Hid (w3.cell? ⟨w.heap.size, 3, none⟩ = some (.int .i64 pn) ∧ w.heap.size < w3.heap.size) := by rw [hw3]; exact HSTEP.out _ _ _ _ H2.out.2 H2.out.1
  have HG3 : Hid (Grown w w3) := by rw [hw3]; exact Grown.drewN (HG2.out.alloc _ _) _
  clear hw3
  go_wp2_with fail
  refine (HC3.out _ _ H3.out.2 H3.out.1).mono ?_
  rintro e w4 ⟨rfl, q3, hw4⟩
  have HG4 : Hid (Grown w w4) := by rw [hw4]; exact Grown.drewN (HG3.out.alloc _ _) _
  clear hw4
  go_wp2
  go_ret
  exact ⟨rfl, HG4.out⟩

set_option maxRecDepth 100000 in
set_option maxHeartbeats 1000000 in
theorem adds_early (a0 : Int) (s : ByteArray) (pt pn cp at1 ms k at2 : Int) (w : World) (hs : s.size ≤ maxLen) (hpm : pn ≤ 9223372036854775807) (hmm : ms ≤ 9223372036854775807) (hkm : k ≤ 9223372036854775807) (h : (1048576 : Int) < (s.size : Int) ∨ (¬ (1048576 : Int) < (s.size : Int) ∧ (pn ≤ 0 ∨ (0 < pn ∧ ms < 0) ∨ (0 < pn ∧ 0 ≤ ms ∧ k < 0) ∨ (0 < pn ∧ 0 ≤ ms ∧ 0 ≤ k ∧ (9223372036854775807 - ms) / pn < k)))) :
    Calls Try.prog 4 #[.int .i64 a0, .string s, .int .i64 pt, .int .i64 pn, .int .i64 cp, .int .i64 at1, .int .i64 ms, .int .i64 k, .int .i64 at2] w fun e w' => e = .returned (.bool true) ∧ Grown w w' := by
  have HB : Hid (∀ w, Calls Try.prog 10 #[.int .i64 a0, .string s, .int .i64 pt, .int .i64 pn, .int .i64 cp, .int .i64 at1, .int .i64 ms, .int .i64 k, .int .i64 at2] w fun e w' => BOut e ∧ w' = w) := fun w => bytes10 a0 s pt pn cp at1 ms k at2 w hs
  unfold maxLen at hs
  rcases h with h | ⟨h0, h | ⟨h1, h2⟩ | ⟨h1, h2, h3⟩ | ⟨h1, h2, h3, h4⟩⟩
  rotate_left 4
  · have hdv : (9223372036854775807 - ms) / pn ≤ 9223372036854775807 - ms := Int.ediv_le_self pn (by omega)
    have hdv0 : 0 ≤ (9223372036854775807 - ms) / pn := Int.ediv_nonneg (by omega) (by omega)
    go_enter Try.func4, Try.ntmps4
    go_wp2_with fail
    refine (HB.out _).mono ?_
    rintro e w' ⟨⟨b, rfl⟩, hw⟩
    rw [hw]; clear hw
    cases b
    · go_wp2
      go_ret
      exact ⟨rfl, Grown.refl _⟩
    · go_wp2
      go_ret
      exact ⟨rfl, Grown.refl _⟩
  all_goals
    go_enter Try.func4, Try.ntmps4
    go_wp2_with fail
    refine (HB.out _).mono ?_
    rintro e w' ⟨⟨b, rfl⟩, hw⟩
    rw [hw]; clear hw
    cases b
    · go_wp2
      go_ret
      exact ⟨rfl, Grown.refl _⟩
    · go_wp2
      go_ret
      exact ⟨rfl, Grown.refl _⟩

set_option maxRecDepth 100000 in
set_option maxHeartbeats 1000000 in
theorem least_early (a0 : Int) (s : ByteArray) (pt pn cp at1 ms at2 : Int) (w : World) (hs : s.size ≤ maxLen) (h : (1048576 : Int) < (s.size : Int) ∨ (¬ (1048576 : Int) < (s.size : Int) ∧ (pn ≤ 0 ∨ (0 < pn ∧ ms < 0)))) :
    Calls Try.prog 3 #[.int .i64 a0, .string s, .int .i64 pt, .int .i64 pn, .int .i64 cp, .int .i64 at1, .int .i64 ms, .int .i64 at2] w fun e w' => e = .returned (.bool true) ∧ Grown w w' := by
  have HB : Hid (∀ w, Calls Try.prog 7 #[.int .i64 a0, .string s, .int .i64 pt, .int .i64 pn, .int .i64 cp, .int .i64 at1, .int .i64 ms, .int .i64 at2] w fun e w' => BOut e ∧ w' = w) := fun w => bytes7 a0 s pt pn cp at1 ms at2 w hs
  unfold maxLen at hs
  rcases h with h | ⟨h0, h | ⟨h1, h2⟩⟩
  all_goals
    go_enter Try.func3, Try.ntmps3
    go_wp2_with fail
    refine (HB.out _).mono ?_
    rintro e w' ⟨⟨b, rfl⟩, hw⟩
    rw [hw]; clear hw
    cases b
    · go_wp2
      go_ret
      exact ⟨rfl, Grown.refl _⟩
    · go_wp2
      go_ret
      exact ⟨rfl, Grown.refl _⟩

end Go.Proofs.Qxb6615782a
