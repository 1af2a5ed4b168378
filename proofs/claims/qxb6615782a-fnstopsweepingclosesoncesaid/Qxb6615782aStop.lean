/-
  FnStopSweepingClosesOnce: the walk.
-/
import Derived.Test.Qxb6615782aNewS
import Derived.Test.Qxb6615782aSel
import Derived.Test.Qxb6615782aUntil
namespace Go.Proofs.Qxb6615782a.once
open Go.RowKit Go.Conc
set_option linter.unusedVariables false

structure Two (w0 w : World) (b1 c1 b2 c2 : Nat) (x y : Bool) : Prop where
  s1 : Stor w b1 c1 x
  s2 : Stor w b2 c2 y
  bel : Below w0.heap.size w0 w
  fz : ∀ a, w.frozen? a = w0.frozen? a
  g1 : w0.heap.size ≤ b1
  g2 : w0.heap.size ≤ c1
  g3 : w0.heap.size ≤ b2
  g4 : w0.heap.size ≤ c2
  d1 : b1 ≠ b2
  d2 : b1 ≠ c2
  d3 : c1 ≠ b2
  d4 : c1 ≠ c2

theorem Apart.below {w0 w w' : World} {b c : Nat} (h : Below w0.heap.size w0 w) (k : Apart b c w w') (hb : w0.heap.size ≤ b) (hc : w0.heap.size ≤ c) : Below w0.heap.size w0 w' :=
  ⟨k.os.trans h.os, k.tape.trans h.tape, k.output.trans h.output, Nat.le_trans h.size k.size, fun i hi => (k.block i (Nat.lt_of_lt_of_le hi h.size) (by omega) (by omega)).trans (h.block i hi)⟩

theorem Two.mk1 {w0 w w' : World} {b1 c1 b2 c2 : Nat} {x y x' : Bool} (h : Two w0 w b1 c1 b2 c2 x y) (hs : Stor w' b1 c1 x') (k : Apart b1 c1 w w') : Two w0 w' b1 c1 b2 c2 x' y :=
  ⟨hs, h.s2.keep k (Ne.symm h.d1) (Ne.symm h.d3) (Ne.symm h.d2) (Ne.symm h.d4), Apart.below h.bel k h.g1 h.g2, fun a => (k.fz a).trans (h.fz a), h.g1, h.g2, h.g3, h.g4, h.d1, h.d2, h.d3, h.d4⟩
theorem Two.mk2 {w0 w w' : World} {b1 c1 b2 c2 : Nat} {x y y' : Bool} (h : Two w0 w b1 c1 b2 c2 x y) (hs : Stor w' b2 c2 y') (k : Apart b2 c2 w w') : Two w0 w' b1 c1 b2 c2 x y' :=
  ⟨h.s1.keep k h.d1 h.d2 h.d3 h.d4, hs, Apart.below h.bel k h.g3 h.g4, fun a => (k.fz a).trans (h.fz a), h.g1, h.g2, h.g3, h.g4, h.d1, h.d2, h.d3, h.d4⟩
theorem Two.stop1 {w0 w : World} {b1 c1 b2 c2 : Nat} {x y : Bool} (h : Two w0 w b1 c1 b2 c2 x y) : Calls Try.prog 13 #[.pointer (some ⟨b1, 0, none⟩)] w fun e w' => e = .returned (.tuple #[]) ∧ Two w0 w' b1 c1 b2 c2 true y := by
  refine (stop13 b1 c1 x w h.s1).mono ?_
  rintro e w' ⟨rfl, hs, ha⟩
  exact ⟨rfl, h.mk1 hs ha⟩
theorem Two.stop2 {w0 w : World} {b1 c1 b2 c2 : Nat} {x y : Bool} (h : Two w0 w b1 c1 b2 c2 x y) : Calls Try.prog 13 #[.pointer (some ⟨b2, 0, none⟩)] w fun e w' => e = .returned (.tuple #[]) ∧ Two w0 w' b1 c1 b2 c2 x true := by
  refine (stop13 b2 c2 y w h.s2).mono ?_
  rintro e w' ⟨rfl, hs, ha⟩
  exact ⟨rfl, h.mk2 hs ha⟩
theorem Stor.closed {w : World} {b c : Nat} {x : Bool} (h : Stor w b c x) : Calls Try.prog 12 #[.pointer (some ⟨b, 0, none⟩)] w fun e w' => e = .returned (.bool x) ∧ w' = w := by
  cases x
  · exact closed_no b c w h.ch h.blk
  · exact closed_yes b c w h.ch h.blk
theorem Two.grown {w0 w : World} {b1 c1 b2 c2 : Nat} {x y : Bool} (h : Two w0 w b1 c1 b2 c2 x y) : Grown w0 w := ⟨h.bel.frame _, h.fz, h.bel.size⟩

/-- Two new stores. -/
theorem Two.new {w0 w1 w2 : World} {b1 c1 b2 c2 : Nat} (g1 : w0.heap.size ≤ b1) (g2 : w0.heap.size ≤ c1) (s1 : Stor w1 b1 c1 false) (l1 : Below w0.heap.size w0 w1) (f1 : ∀ a, w1.frozen? a = w0.frozen? a)
    (g3 : w1.heap.size ≤ b2) (g4 : w1.heap.size ≤ c2) (s2 : Stor w2 b2 c2 false) (l2 : Below w1.heap.size w1 w2) (f2 : ∀ a, w2.frozen? a = w1.frozen? a) : Two w0 w2 b1 c1 b2 c2 false false := by
  have hb := s1.bl
  have hc := s1.cL
  have hs := l1.size
  have k : Apart b2 c2 w1 w2 := ⟨l2.os, l2.tape, l2.output, l2.size, fun i hi _ _ => l2.block i hi, f2⟩
  exact ⟨s1.keep k (by omega) (by omega) (by omega) (by omega), s2, l1.trans (l2.mono hs), fun a => (f2 a).trans (f1 a), g1, g2, by omega, by omega, by omega, by omega, by omega, by omega⟩

set_option maxRecDepth 100000 in
set_option maxHeartbeats 1600000 in
theorem stop_main (n m : Nat) (hn : n ≤ 65536) (hm : m ≤ 65536) (w : World) :
    Calls Try.prog 5 #[.int .i64 n, .int .i64 m] w fun e w' => e = .returned (.bool true) ∧ Grown w w' := by
  have hnot : ∀ (x : Bool) (w : World), (Op.unary .not (.bool x)).run Try.prog w = .ok (.bool (!x)) w := fun _ _ => rfl
  have q1 : ¬ ((n : Int) < 0) := by omega
  have q2 : ¬ ((65536 : Int) < (n : Int)) := by omega
  have q3 : ¬ ((m : Int) < 0) := by omega
  have q4 : ¬ ((65536 : Int) < (m : Int)) := by omega
  go_enter Try.func5, Try.ntmps5
  go_wp2_with fail
  refine (new11 _).mono ?_
  rintro e w1 ⟨b1, c1, rfl, h1⟩
  have H1 : Hid (w.heap.size ≤ b1 ∧ w.heap.size ≤ c1 ∧ Stor w1 b1 c1 false ∧ Below w.heap.size w w1 ∧ ∀ a, w1.frozen? a = w.frozen? a) := h1
  clear h1
  go_wp2_with fail
  refine (new11 _).mono ?_
  rintro e w2 ⟨b2, c2, rfl, h2⟩
  have HT : Hid (Two w w2 b1 c1 b2 c2 false false) := Two.new H1.out.1 H1.out.2.1 H1.out.2.2.1 H1.out.2.2.2.1 H1.out.2.2.2.2 h2.1 h2.2.1 h2.2.2.1 h2.2.2.2.1 h2.2.2.2.2
  clear h2 H1
  go_wp2_with fail
  refine HT.out.s1.closed.mono ?_
  rintro e w' ⟨rfl, hw⟩
  rw [hw]; clear hw
  go_wp2_with fail
  refine HT.out.s2.closed.mono ?_
  rintro e w' ⟨rfl, hw⟩
  rw [hw]; clear hw
  go_wp2_with fail
  go_loopw [7] (fun i wr => ∃ k : Nat, k ≤ n ∧ i = .int .i64 k ∧ Two w wr b1 c1 b2 c2 (decide (0 < k)) false) (fun i _ => n - (intOf i).toNat)
  case atStart => exact ⟨0, Nat.zero_le _, rfl, HT.out⟩
  case round =>
    obtain ⟨k, hk, rfl, hT⟩ := hrel
    have HR : Hid (Two w wr b1 c1 b2 c2 (decide (0 < k)) false) := hT
    clear hT HT
    by_cases hlt : k < n
    · go_wp2_with fail
      refine HR.out.stop1.mono ?_
      rintro e w3 ⟨rfl, hT⟩
      have HS : Hid (Two w w3 b1 c1 b2 c2 true false) := hT
      clear hT HR
      go_wp2_with fail
      refine HS.out.s1.closed.mono ?_
      rintro e w' ⟨rfl, hw⟩
      rw [hw]; clear hw
      go_wp2_with fail
      go_roundw
      case rel => exact ⟨k + 1, by omega, by go_num, by have := HS.out; simpa using this⟩
      case measure => simp [intOf]; omega
    · obtain rfl : k = n := by omega
      go_wp2_with fail
      refine HR.out.s2.closed.mono ?_
      rintro e w' ⟨rfl, hw⟩
      rw [hw]; clear hw
      go_wp2_with fail
      obtain ⟨x, hx⟩ : ∃ x, decide (0 < k) = x := ⟨_, rfl⟩
      rw [hx] at HR
      go_loopw [8] (fun i wr => ∃ j : Nat, j ≤ m ∧ i = .int .i64 j ∧ Two w wr b1 c1 b2 c2 x (decide (0 < j))) (fun i _ => m - (intOf i).toNat)
      case atStart => exact ⟨0, Nat.zero_le _, rfl, HR.out⟩
      case round =>
        obtain ⟨j, hj, rfl, hT⟩ := hrel
        have HQ : Hid (Two w wr b1 c1 b2 c2 x (decide (0 < j))) := hT
        clear hT HR
        by_cases hlt2 : j < m
        · go_wp2_with fail
          refine HQ.out.stop2.mono ?_
          rintro e w3 ⟨rfl, hT⟩
          have HS : Hid (Two w w3 b1 c1 b2 c2 x true) := hT
          clear hT HQ
          go_wp2_with fail
          refine HS.out.s2.closed.mono ?_
          rintro e w' ⟨rfl, hw⟩
          rw [hw]; clear hw
          go_wp2_with fail
          go_roundw
          case rel => exact ⟨j + 1, by omega, by go_num, by have := HS.out; simpa using this⟩
          case measure => simp [intOf]; omega
        · obtain rfl : j = m := by omega
          obtain ⟨y, hy⟩ : ∃ y, decide (0 < j) = y := ⟨_, rfl⟩
          rw [hy] at HQ
          have hx' : decide ((0 : Int) < (k : Int)) = x := by rw [← hx]; simp
          have hy' : decide ((0 : Int) < (j : Int)) = y := by rw [← hy]; simp
          have ex : (x == x) = true := by simp
          have ey : (y == y) = true := by simp
          have HY : Hid (decide (0 < j) = y) := hy
          have HX : Hid (decide (0 < k) = x) := hx
          clear hx hy
          go_wp2_with fail
          refine HQ.out.s1.closed.mono ?_
          rintro e w' ⟨rfl, hw⟩
          rw [hw]; clear hw
          go_wp2_with fail
          · refine HQ.out.s2.closed.mono ?_
            rintro e w' ⟨rfl, hw⟩
            rw [hw]; clear hw
            go_wp2_with fail
            go_ret
            refine ⟨?_, HQ.out.grown⟩
            show Ending.returned (Value.bool (y == decide (0 < j))) = _
            rw [HY.out, ey]
          · rename_i hne
            exact absurd HX.out.symm hne

set_option maxRecDepth 100000 in
set_option maxHeartbeats 1600000 in
theorem stop_early (n m : Int) (h : n < 0 ∨ (¬ n < 0 ∧ 65536 < n) ∨ (¬ n < 0 ∧ ¬ 65536 < n ∧ m < 0) ∨ (¬ n < 0 ∧ ¬ 65536 < n ∧ ¬ m < 0 ∧ 65536 < m)) (w : World) :
    Calls Try.prog 5 #[.int .i64 n, .int .i64 m] w fun e w' => e = .returned (.bool true) ∧ Grown w w' := by
  rcases h with h | ⟨h0, h⟩ | ⟨h0, h1, h⟩ | ⟨h0, h1, h2, h⟩
  all_goals
    go_enter Try.func5, Try.ntmps5
    go_wp2_with fail
    go_ret
    exact ⟨rfl, Grown.refl _⟩
end Go.Proofs.Qxb6615782a.once
