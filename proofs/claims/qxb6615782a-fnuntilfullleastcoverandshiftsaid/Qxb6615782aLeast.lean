/-
  FnUntilFullLeastCoverAndShift: the walk.
-/
import Derived.Test.Qxb6615782aUntil
namespace Go.Proofs.Qxb6615782a
open Go.RowKit
set_option linter.unusedVariables false

def BOut (e : Ending) : Prop := ∃ b : Bool, e = .returned (.bool b)
theorem BOut.mk (b : Bool) : BOut (.returned (.bool b)) := ⟨b, rfl⟩
theorem Grown.drewN {W w : World} (h : Grown W w) (q : Nat) : Grown W (w.drewN q) := h

set_option maxHeartbeats 400000 in
theorem bytes7 (a0 : Int) (s : ByteArray) (a2 a3 a4 a5 a6 a7 : Int) (w : World) (hs : s.size ≤ maxLen) :
    Calls Try.prog 7 #[.int .i64 a0, .string s, .int .i64 a2, .int .i64 a3, .int .i64 a4, .int .i64 a5, .int .i64 a6, .int .i64 a7] w fun e w' => BOut e ∧ w' = w := by
  unfold maxLen at hs
  go_enter Try.func7, Try.ntmps7
  go_wp2
  all_goals (go_ret; exact ⟨BOut.mk _, rfl⟩)

set_option maxRecDepth 100000 in
set_option maxHeartbeats 1000000 in
theorem least_main (a0 : Int) (s : ByteArray) (pt pn cp at1 ms at2 : Int) (w : World) (hs : s.size ≤ 1048576) (hpn : 0 < pn) (hpm : pn ≤ 9223372036854775807) (hms : 0 ≤ ms) (hmm : ms ≤ 9223372036854775807) :
    Calls Try.prog 3 #[.int .i64 a0, .string s, .int .i64 pt, .int .i64 pn, .int .i64 cp, .int .i64 at1, .int .i64 ms, .int .i64 at2] w fun e w' => e = .returned (.bool true) ∧ Grown w w' := by
  have HB : Hid (∀ w, Calls Try.prog 7 #[.int .i64 a0, .string s, .int .i64 pt, .int .i64 pn, .int .i64 cp, .int .i64 at1, .int .i64 ms, .int .i64 at2] w fun e w' => BOut e ∧ w' = w) := fun w => bytes7 a0 s pt pn cp at1 ms at2 w (by unfold maxLen; omega)
  obtain ⟨q0, q1, q2, q3⟩ := cdiv_spec hms hpn
  have q4 := cdiv_le hms hpn
  have HZ : Hid (cdiv ms pn = 0 → ms = 0) := cdiv_zero hms hpn
  have HA : Hid (cdiv (ms + pn) pn = cdiv ms pn + 1) := by
    have := cdiv_add (a := ms) (b := pn) (k := 1) hpn
    rw [Int.one_mul] at this
    exact this
  have HCD : Hid (∀ g w, g < w.heap.size → w.cell? ⟨g, 3, none⟩ = some (.int .i64 pn) → Calls Try.prog 9 #[.pointer (some ⟨g, 0, none⟩), .int .i64 at1, .int .i64 ms] w fun e w' => e = .returned (.int .i64 (cdiv ms pn)) ∧ ∃ q, w' = (w.alloc (.cells #[.int .i64 at1, .int .i64 ms] 45)).drewN q) := fun g w hg h => zzuntil_any g pn at1 ms w hg h hms hmm hpn hpm
  have HCD2 : Hid (ms + pn ≤ 9223372036854775807 → ∀ g w, g < w.heap.size → w.cell? ⟨g, 3, none⟩ = some (.int .i64 pn) → Calls Try.prog 9 #[.pointer (some ⟨g, 0, none⟩), .int .i64 at2, .int .i64 (ms + pn)] w fun e w' => e = .returned (.int .i64 (cdiv ms pn + 1)) ∧ ∃ q, w' = (w.alloc (.cells #[.int .i64 at2, .int .i64 (ms + pn)] 45)).drewN q) := fun hle g w hg h => by
    rw [← HA.out]
    exact zzuntil_any g pn at2 (ms + pn) w hg h (by omega) hle hpn hpm
  have hd0 : 0 ≤ ms / pn := Int.ediv_nonneg hms (Int.le_of_lt hpn)
  have hd1 : ms / pn ≤ ms := Int.ediv_le_self pn hms
  generalize hq : cdiv ms pn = q at *
  clear hq
  generalize hpr : q * pn = pr at *
  generalize hd : ms / pn = d at *
  have u1 : IntKind.u64.wrap ms = ms := by rw [IntKind.wrap_u64]; omega
  have u2 : IntKind.u64.wrap pn = pn := by rw [IntKind.wrap_u64]; omega
  have u3 : IntKind.u64.wrap q = q := by rw [IntKind.wrap_u64]; omega
  have u4 : IntKind.u64.wrap d = d := by rw [IntKind.wrap_u64]; omega
  have u5 : IntKind.u64.wrap (d + 1) = d + 1 := by rw [IntKind.wrap_u64]; omega
  have u6 : IntKind.u64.wrap pr = pr := by rw [IntKind.wrap_u64]; omega
  have u7 : ms.tdiv pn = d := by rw [Int.tdiv_eq_ediv_of_nonneg hms]; exact hd
  go_enter Try.func3, Try.ntmps3
  go_wp2_with fail
  refine (HB.out _).mono ?_
  rintro e w' ⟨⟨b, rfl⟩, hw⟩
  rw [hw]; clear hw
  cases b
  · go_wp2
    go_ret
    exact ⟨rfl, Grown.refl _⟩
  go_wp2_with fail
  refine (rate_any _ _ _ _ _ _).mono ?_
  rintro e w1 ⟨rfl, hw1⟩
  have HW1 : Hid (w1 = w.alloc (.cells #[.int .i64 a0, .string s, .int .i64 pt, .int .i64 pn, .int .i64 cp] 42)) := hw1
  have hc : w1.cell? ⟨w.heap.size, 3, none⟩ = some (.int .i64 pn) := by rw [hw1]; simp
  have hl : w.heap.size < w1.heap.size := by rw [hw1]; simp
  clear hw1
  have HC1 : Hid _ := hc
  clear hc
  go_wp2_with fail
  refine (HCD.out _ _ hl HC1.out).mono ?_
  rintro e w2 ⟨rfl, q', hw2⟩
  have HW2 : Hid (w2 = (w1.alloc (.cells #[.int .i64 at1, .int .i64 ms] 45)).drewN q') := hw2
  have HC2 : Hid (w2.cell? ⟨w.heap.size, 3, none⟩ = some (.int .i64 pn)) := by
    rw [hw2]
    have : Below w1.heap.size w1 ((w1.alloc (.cells #[.int .i64 at1, .int .i64 ms] 45)).drewN q') := ⟨rfl, rfl, rfl, by show w1.heap.size ≤ (w1.heap.push _).size; simp, fun k hk => Below.heap_alloc _ _ _ hk⟩
    rw [this.cell (p := ⟨w.heap.size, 3, none⟩) hl]
    exact HC1.out
  have hl2 : w.heap.size < w2.heap.size := by rw [hw2]; show w.heap.size < (w1.heap.push _).size; simp; omega
  have HG2 : Hid (Grown w w2) := by rw [hw2, HW1.out]; exact Grown.drewN (((Grown.refl w).alloc _ _).alloc _ _) _
  clear hw2
  have hfin : Hid (Grown w w2) := HG2.out
  have hpn1 : 0 < q → pn ≤ pr := fun h => by
    rw [← hpr]
    have := Int.mul_le_mul_of_nonneg_right (show (1 : Int) ≤ q from h) (Int.le_of_lt hpn)
    omega
  have HPR : Hid (0 < q → pn ≤ pr) := hpn1
  clear hpn1
  have hle : q + 1 ≤ 9223372036854775807 ∨ ¬ (ms ≤ 9223372036854775807 - pn) := by
    by_cases h : ms ≤ 9223372036854775807 - pn
    · left; omega
    · exact .inr h
  by_cases hq0 : q = 0
  · have hqb : (q == 0) = true := by simpa using hq0
    have hmb : (ms != 0) = false := by have := HZ.out hq0; simp [this]
    have hq00 : q ≤ 0 := by omega
    clear hq0
    by_cases hlast : ms ≤ 9223372036854775807 - pn
    · have hq1b : q + 1 ≤ 9223372036854775807 := by omega
      have hne : (q + 1 != q + 1) = false := by simp
      clear hle
      go_wp2_with fail
      refine (HCD2.out (by omega) _ _ hl2 HC2.out).mono ?_
      rintro e w3 ⟨rfl, q'', hw3⟩
      have HG3 : Hid (Grown w w3) := by rw [hw3]; exact Grown.drewN (HG2.out.alloc _ _) _
      clear hw3
      go_wp2
      go_ret
      exact ⟨rfl, HG3.out⟩
    · go_wp2
      go_ret
      exact ⟨rfl, HG2.out⟩
  · have hqb : (q == 0) = false := by simpa using hq0
    have hppr := HPR.out (by omega)
    have u8 : IntKind.u64.wrap (pr - pn) = pr - pn := by rw [IntKind.wrap_u64]; omega
    have hqp : 0 < q := by omega
    clear hq0
    by_cases hlast : ms ≤ 9223372036854775807 - pn
    · have hq1b : q + 1 ≤ 9223372036854775807 := by rcases hle with h | h; exact h; exact absurd hlast h
      have hne : (q + 1 != q + 1) = false := by simp
      clear hle
      go_wp2_with fail
      refine (HCD2.out (by omega) _ _ hl2 HC2.out).mono ?_
      rintro e w3 ⟨rfl, q'', hw3⟩
      have HG3 : Hid (Grown w w3) := by rw [hw3]; exact Grown.drewN (HG2.out.alloc _ _) _
      clear hw3
      go_wp2
      go_ret
      exact ⟨rfl, HG3.out⟩
    · go_wp2
      go_ret
      exact ⟨rfl, HG2.out⟩

end Go.Proofs.Qxb6615782a
