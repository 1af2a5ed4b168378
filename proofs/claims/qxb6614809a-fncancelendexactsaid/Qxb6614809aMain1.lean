/-
  FnCancelEndExact: up to the queue.
-/
import Derived.Test.Qxb6614809aEarly
import Derived.Deep.DeepCutAuto
namespace Go.Proofs.Qxb6614809a
open Go.RowKit
set_option linter.unusedVariables false

set_option maxHeartbeats 400000 in
theorem valid_ne1 (a0 : Option Addr) (l0 c0 : Nat) (a1 : Option Addr) (l1 c1 : Nat) (a2 : Option Addr) (l2 c2 : Nat) (a3 : Option Addr) (l3 c3 : Nat) (v : Value) (w : World) (h : ((l1 : Int) != (l0 : Int)) = true) :
    Calls Try.prog 5 #[.slice a0 l0 c0, .slice a1 l1 c1, .slice a2 l2 c2, .slice a3 l3 c3, v] w fun e w' => e = .returned (.bool false) ∧ w' = w := by
  go_enter Try.func5, Try.ntmps5
  go_wp2
  go_ret
  exact ⟨rfl, rfl⟩
set_option maxHeartbeats 400000 in
theorem valid_ne2 (a0 : Option Addr) (l0 c0 : Nat) (a1 : Option Addr) (c1 : Nat) (a2 : Option Addr) (l2 c2 : Nat) (a3 : Option Addr) (l3 c3 : Nat) (v : Value) (w : World) (h : ((l2 : Int) != (l0 : Int)) = true) :
    Calls Try.prog 5 #[.slice a0 l0 c0, .slice a1 l0 c1, .slice a2 l2 c2, .slice a3 l3 c3, v] w fun e w' => e = .returned (.bool false) ∧ w' = w := by
  have hnn : ((l0 : Int) != l0) = false := by simp
  go_enter Try.func5, Try.ntmps5
  go_wp2
  go_ret
  exact ⟨rfl, rfl⟩
set_option maxHeartbeats 400000 in
theorem valid_ne3 (a0 : Option Addr) (l0 c0 : Nat) (a1 : Option Addr) (c1 : Nat) (a2 : Option Addr) (c2 : Nat) (a3 : Option Addr) (l3 c3 : Nat) (v : Value) (w : World) (h : ((l3 : Int) != (l0 : Int)) = true) :
    Calls Try.prog 5 #[.slice a0 l0 c0, .slice a1 l0 c1, .slice a2 l0 c2, .slice a3 l3 c3, v] w fun e w' => e = .returned (.bool false) ∧ w' = w := by
  have hnn : ((l0 : Int) != l0) = false := by simp
  go_enter Try.func5, Try.ntmps5
  go_wp2
  go_ret
  exact ⟨rfl, rfl⟩

theorem valid_all (a0 : Option Addr) (l0 c0 : Nat) (A : List Int) (a1 : Option Addr) (l1 c1 : Nat) (S : List Int) (a2 : Option Addr) (l2 c2 : Nat) (K : List Int) (a3 : Option Addr) (l3 c3 : Nat) (R : List Int) (a4 : Option Addr) (l4 c4 : Nat) (P : List Int) (w : World)
    (hA : Ints .i64 w a0 A) (hS : Ints .u64 w a1 S) (hK : Ints .u8 w a2 K) (hR : Ints .i64 w a3 R) (hP : Ints .i64 w a4 P)
    (n0 : A.length = l0) (n1 : S.length = l1) (n2 : K.length = l2) (n3 : R.length = l3) (n4 : P.length = l4) (t0 : l0 ≤ 4096) (t4 : l4 ≤ 65536) (hRw : ∀ i, -9223372036854775808 ≤ R.getD i 0 ∧ R.getD i 0 ≤ 9223372036854775807) :
    Calls Try.prog 5 #[.slice a0 l0 c0, .slice a1 l1 c1, .slice a2 l2 c2, .slice a3 l3 c3, .slice a4 l4 c4] w fun e w' => VOut A S K R P e ∧ ∃ q, w' = w.drewN q := by
  by_cases e1 : l1 = l0
  · by_cases e2 : l2 = l0
    · by_cases e3 : l3 = l0
      · subst e1 e2 e3
        exact valid_any a0 c0 A a1 c1 S a2 c2 K a3 c3 R a4 c4 P w hA hS hK hR hP (by omega) (by omega) (by omega) l3 n0 t0 l4 n4 t4 hRw
      · subst e1 e2
        exact (valid_ne3 a0 l2 c0 a1 c1 a2 c2 a3 l3 c3 _ w (by rw [bne_iff_ne]; omega)).mono fun e w' ⟨he, hw⟩ => ⟨by rw [he]; exact VOut.no _ _ _ _ _, 0, hw⟩
    · subst e1
      exact (valid_ne2 a0 l1 c0 a1 c1 a2 l2 c2 a3 l3 c3 _ w (by rw [bne_iff_ne]; omega)).mono fun e w' ⟨he, hw⟩ => ⟨by rw [he]; exact VOut.no _ _ _ _ _, 0, hw⟩
  · exact (valid_ne1 a0 l0 c0 a1 l1 c1 a2 l2 c2 a3 l3 c3 _ w (by rw [bne_iff_ne]; omega)).mono fun e w' ⟨he, hw⟩ => ⟨by rw [he]; exact VOut.no _ _ _ _ _, 0, hw⟩

end Go.Proofs.Qxb6614809a
