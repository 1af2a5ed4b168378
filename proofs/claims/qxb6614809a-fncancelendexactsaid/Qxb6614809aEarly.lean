/-
  FnCancelEndExact: the ways that answer true at once.
-/
import Derived.Test.Qxb6614809aNew
import Derived.Test.Qxb6614809aValid
namespace Go.Proofs.Qxb6614809a
open Go.RowKit
set_option linter.unusedVariables false

set_option maxRecDepth 100000 in
set_option maxHeartbeats 400000 in
theorem early0 (a0 : Option Addr) (l0 c0 : Nat) (a1 : Option Addr) (l1 c1 : Nat) (a2 : Option Addr) (l2 c2 : Nat) (a3 : Option Addr) (l3 c3 : Nat) (a4 : Option Addr) (l4 c4 : Nat) (p : Int) (w : World)
    (h0 : l0 ≤ maxLen) (h1 : l1 ≤ maxLen) (h2 : l2 ≤ maxLen) (h3 : l3 ≤ maxLen) (h4 : l4 ≤ maxLen)
    (t0 : (4096 : Int) < (l0 : Int)) :
    Calls Try.prog 3 #[.slice a0 l0 c0, .slice a1 l1 c1, .slice a2 l2 c2, .slice a3 l3 c3, .slice a4 l4 c4, .int .i64 p] w fun e w' => e = .returned (.bool true) ∧ Below w.heap.size w w' := by
  have HB : Hid (∀ w, Calls Try.prog 4 #[.slice a0 l0 c0, .slice a1 l1 c1, .slice a2 l2 c2, .slice a3 l3 c3, .slice a4 l4 c4, .int .i64 p] w fun e w' => (∃ b : Bool, e = .returned (.bool b)) ∧ w' = w) := fun w => bytes_any a0 l0 c0 a1 l1 c1 a2 l2 c2 a3 l3 c3 a4 l4 c4 p w h0 h1 h2 h3 h4
  unfold maxLen at h0 h1 h2 h3 h4
  go_enter Try.func3, Try.ntmps3
  go_wp2_with fail
  refine (HB.out _).mono ?_
  rintro e w' ⟨⟨b, rfl⟩, rfl⟩
  cases b
  · go_wp2
    go_ret
    exact ⟨rfl, Below.refl _ _⟩
  · go_wp2
    go_ret
    exact ⟨rfl, Below.refl _ _⟩

set_option maxRecDepth 100000 in
set_option maxHeartbeats 400000 in
theorem early1 (a0 : Option Addr) (l0 c0 : Nat) (a1 : Option Addr) (l1 c1 : Nat) (a2 : Option Addr) (l2 c2 : Nat) (a3 : Option Addr) (l3 c3 : Nat) (a4 : Option Addr) (l4 c4 : Nat) (p : Int) (w : World)
    (h0 : l0 ≤ maxLen) (h1 : l1 ≤ maxLen) (h2 : l2 ≤ maxLen) (h3 : l3 ≤ maxLen) (h4 : l4 ≤ maxLen)
    (t0 : ¬ (4096 : Int) < (l0 : Int)) (t1 : (4096 : Int) < (l1 : Int)) :
    Calls Try.prog 3 #[.slice a0 l0 c0, .slice a1 l1 c1, .slice a2 l2 c2, .slice a3 l3 c3, .slice a4 l4 c4, .int .i64 p] w fun e w' => e = .returned (.bool true) ∧ Below w.heap.size w w' := by
  have HB : Hid (∀ w, Calls Try.prog 4 #[.slice a0 l0 c0, .slice a1 l1 c1, .slice a2 l2 c2, .slice a3 l3 c3, .slice a4 l4 c4, .int .i64 p] w fun e w' => (∃ b : Bool, e = .returned (.bool b)) ∧ w' = w) := fun w => bytes_any a0 l0 c0 a1 l1 c1 a2 l2 c2 a3 l3 c3 a4 l4 c4 p w h0 h1 h2 h3 h4
  unfold maxLen at h0 h1 h2 h3 h4
  go_enter Try.func3, Try.ntmps3
  go_wp2_with fail
  refine (HB.out _).mono ?_
  rintro e w' ⟨⟨b, rfl⟩, rfl⟩
  cases b
  · go_wp2
    go_ret
    exact ⟨rfl, Below.refl _ _⟩
  · go_wp2
    go_ret
    exact ⟨rfl, Below.refl _ _⟩

set_option maxRecDepth 100000 in
set_option maxHeartbeats 400000 in
theorem early2 (a0 : Option Addr) (l0 c0 : Nat) (a1 : Option Addr) (l1 c1 : Nat) (a2 : Option Addr) (l2 c2 : Nat) (a3 : Option Addr) (l3 c3 : Nat) (a4 : Option Addr) (l4 c4 : Nat) (p : Int) (w : World)
    (h0 : l0 ≤ maxLen) (h1 : l1 ≤ maxLen) (h2 : l2 ≤ maxLen) (h3 : l3 ≤ maxLen) (h4 : l4 ≤ maxLen)
    (t0 : ¬ (4096 : Int) < (l0 : Int)) (t1 : ¬ (4096 : Int) < (l1 : Int)) (t2 : (4096 : Int) < (l2 : Int)) :
    Calls Try.prog 3 #[.slice a0 l0 c0, .slice a1 l1 c1, .slice a2 l2 c2, .slice a3 l3 c3, .slice a4 l4 c4, .int .i64 p] w fun e w' => e = .returned (.bool true) ∧ Below w.heap.size w w' := by
  have HB : Hid (∀ w, Calls Try.prog 4 #[.slice a0 l0 c0, .slice a1 l1 c1, .slice a2 l2 c2, .slice a3 l3 c3, .slice a4 l4 c4, .int .i64 p] w fun e w' => (∃ b : Bool, e = .returned (.bool b)) ∧ w' = w) := fun w => bytes_any a0 l0 c0 a1 l1 c1 a2 l2 c2 a3 l3 c3 a4 l4 c4 p w h0 h1 h2 h3 h4
  unfold maxLen at h0 h1 h2 h3 h4
  go_enter Try.func3, Try.ntmps3
  go_wp2_with fail
  refine (HB.out _).mono ?_
  rintro e w' ⟨⟨b, rfl⟩, rfl⟩
  cases b
  · go_wp2
    go_ret
    exact ⟨rfl, Below.refl _ _⟩
  · go_wp2
    go_ret
    exact ⟨rfl, Below.refl _ _⟩

set_option maxRecDepth 100000 in
set_option maxHeartbeats 400000 in
theorem early3 (a0 : Option Addr) (l0 c0 : Nat) (a1 : Option Addr) (l1 c1 : Nat) (a2 : Option Addr) (l2 c2 : Nat) (a3 : Option Addr) (l3 c3 : Nat) (a4 : Option Addr) (l4 c4 : Nat) (p : Int) (w : World)
    (h0 : l0 ≤ maxLen) (h1 : l1 ≤ maxLen) (h2 : l2 ≤ maxLen) (h3 : l3 ≤ maxLen) (h4 : l4 ≤ maxLen)
    (t0 : ¬ (4096 : Int) < (l0 : Int)) (t1 : ¬ (4096 : Int) < (l1 : Int)) (t2 : ¬ (4096 : Int) < (l2 : Int)) (t3 : (4096 : Int) < (l3 : Int)) :
    Calls Try.prog 3 #[.slice a0 l0 c0, .slice a1 l1 c1, .slice a2 l2 c2, .slice a3 l3 c3, .slice a4 l4 c4, .int .i64 p] w fun e w' => e = .returned (.bool true) ∧ Below w.heap.size w w' := by
  have HB : Hid (∀ w, Calls Try.prog 4 #[.slice a0 l0 c0, .slice a1 l1 c1, .slice a2 l2 c2, .slice a3 l3 c3, .slice a4 l4 c4, .int .i64 p] w fun e w' => (∃ b : Bool, e = .returned (.bool b)) ∧ w' = w) := fun w => bytes_any a0 l0 c0 a1 l1 c1 a2 l2 c2 a3 l3 c3 a4 l4 c4 p w h0 h1 h2 h3 h4
  unfold maxLen at h0 h1 h2 h3 h4
  go_enter Try.func3, Try.ntmps3
  go_wp2_with fail
  refine (HB.out _).mono ?_
  rintro e w' ⟨⟨b, rfl⟩, rfl⟩
  cases b
  · go_wp2
    go_ret
    exact ⟨rfl, Below.refl _ _⟩
  · go_wp2
    go_ret
    exact ⟨rfl, Below.refl _ _⟩

set_option maxRecDepth 100000 in
set_option maxHeartbeats 400000 in
theorem early4 (a0 : Option Addr) (l0 c0 : Nat) (a1 : Option Addr) (l1 c1 : Nat) (a2 : Option Addr) (l2 c2 : Nat) (a3 : Option Addr) (l3 c3 : Nat) (a4 : Option Addr) (l4 c4 : Nat) (p : Int) (w : World)
    (h0 : l0 ≤ maxLen) (h1 : l1 ≤ maxLen) (h2 : l2 ≤ maxLen) (h3 : l3 ≤ maxLen) (h4 : l4 ≤ maxLen)
    (t0 : ¬ (4096 : Int) < (l0 : Int)) (t1 : ¬ (4096 : Int) < (l1 : Int)) (t2 : ¬ (4096 : Int) < (l2 : Int)) (t3 : ¬ (4096 : Int) < (l3 : Int)) (t4 : (65536 : Int) < (l4 : Int)) :
    Calls Try.prog 3 #[.slice a0 l0 c0, .slice a1 l1 c1, .slice a2 l2 c2, .slice a3 l3 c3, .slice a4 l4 c4, .int .i64 p] w fun e w' => e = .returned (.bool true) ∧ Below w.heap.size w w' := by
  have HB : Hid (∀ w, Calls Try.prog 4 #[.slice a0 l0 c0, .slice a1 l1 c1, .slice a2 l2 c2, .slice a3 l3 c3, .slice a4 l4 c4, .int .i64 p] w fun e w' => (∃ b : Bool, e = .returned (.bool b)) ∧ w' = w) := fun w => bytes_any a0 l0 c0 a1 l1 c1 a2 l2 c2 a3 l3 c3 a4 l4 c4 p w h0 h1 h2 h3 h4
  unfold maxLen at h0 h1 h2 h3 h4
  go_enter Try.func3, Try.ntmps3
  go_wp2_with fail
  refine (HB.out _).mono ?_
  rintro e w' ⟨⟨b, rfl⟩, rfl⟩
  cases b
  · go_wp2
    go_ret
    exact ⟨rfl, Below.refl _ _⟩
  · go_wp2
    go_ret
    exact ⟨rfl, Below.refl _ _⟩

set_option maxRecDepth 100000 in
set_option maxHeartbeats 400000 in
theorem earlyNeg (a0 : Option Addr) (l0 c0 : Nat) (a1 : Option Addr) (l1 c1 : Nat) (a2 : Option Addr) (l2 c2 : Nat) (a3 : Option Addr) (l3 c3 : Nat) (a4 : Option Addr) (l4 c4 : Nat) (p : Int) (w : World)
    (h0 : l0 ≤ maxLen) (h1 : l1 ≤ maxLen) (h2 : l2 ≤ maxLen) (h3 : l3 ≤ maxLen) (h4 : l4 ≤ maxLen)
    (t0 : ¬ (4096 : Int) < (l0 : Int)) (t1 : ¬ (4096 : Int) < (l1 : Int)) (t2 : ¬ (4096 : Int) < (l2 : Int)) (t3 : ¬ (4096 : Int) < (l3 : Int)) (t4 : ¬ (65536 : Int) < (l4 : Int)) (hp : p < 0) :
    Calls Try.prog 3 #[.slice a0 l0 c0, .slice a1 l1 c1, .slice a2 l2 c2, .slice a3 l3 c3, .slice a4 l4 c4, .int .i64 p] w fun e w' => e = .returned (.bool true) ∧ Below w.heap.size w w' := by
  have HB : Hid (∀ w, Calls Try.prog 4 #[.slice a0 l0 c0, .slice a1 l1 c1, .slice a2 l2 c2, .slice a3 l3 c3, .slice a4 l4 c4, .int .i64 p] w fun e w' => (∃ b : Bool, e = .returned (.bool b)) ∧ w' = w) := fun w => bytes_any a0 l0 c0 a1 l1 c1 a2 l2 c2 a3 l3 c3 a4 l4 c4 p w h0 h1 h2 h3 h4
  unfold maxLen at h0 h1 h2 h3 h4
  go_enter Try.func3, Try.ntmps3
  go_wp2_with fail
  refine (HB.out _).mono ?_
  rintro e w' ⟨⟨b, rfl⟩, rfl⟩
  cases b
  · go_wp2
    go_ret
    exact ⟨rfl, Below.refl _ _⟩
  · go_wp2
    go_ret
    exact ⟨rfl, Below.refl _ _⟩

set_option maxRecDepth 100000 in
set_option maxHeartbeats 400000 in
theorem earlyMax (a0 : Option Addr) (l0 c0 : Nat) (a1 : Option Addr) (l1 c1 : Nat) (a2 : Option Addr) (l2 c2 : Nat) (a3 : Option Addr) (l3 c3 : Nat) (a4 : Option Addr) (l4 c4 : Nat) (p : Int) (w : World)
    (h0 : l0 ≤ maxLen) (h1 : l1 ≤ maxLen) (h2 : l2 ≤ maxLen) (h3 : l3 ≤ maxLen) (h4 : l4 ≤ maxLen)
    (t0 : ¬ (4096 : Int) < (l0 : Int)) (t1 : ¬ (4096 : Int) < (l1 : Int)) (t2 : ¬ (4096 : Int) < (l2 : Int)) (t3 : ¬ (4096 : Int) < (l3 : Int)) (t4 : ¬ (65536 : Int) < (l4 : Int)) (hp : p = 9223372036854775807) :
    Calls Try.prog 3 #[.slice a0 l0 c0, .slice a1 l1 c1, .slice a2 l2 c2, .slice a3 l3 c3, .slice a4 l4 c4, .int .i64 p] w fun e w' => e = .returned (.bool true) ∧ Below w.heap.size w w' := by
  have HB : Hid (∀ w, Calls Try.prog 4 #[.slice a0 l0 c0, .slice a1 l1 c1, .slice a2 l2 c2, .slice a3 l3 c3, .slice a4 l4 c4, .int .i64 p] w fun e w' => (∃ b : Bool, e = .returned (.bool b)) ∧ w' = w) := fun w => bytes_any a0 l0 c0 a1 l1 c1 a2 l2 c2 a3 l3 c3 a4 l4 c4 p w h0 h1 h2 h3 h4
  unfold maxLen at h0 h1 h2 h3 h4
  subst hp
  go_enter Try.func3, Try.ntmps3
  go_wp2_with fail
  refine (HB.out _).mono ?_
  rintro e w' ⟨⟨b, rfl⟩, rfl⟩
  cases b
  · go_wp2
    go_ret
    exact ⟨rfl, Below.refl _ _⟩
  · go_wp2
    go_ret
    exact ⟨rfl, Below.refl _ _⟩


end Go.Proofs.Qxb6614809a
