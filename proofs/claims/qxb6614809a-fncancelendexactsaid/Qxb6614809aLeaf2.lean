/-
  Contracts of more leaves on the road of FnCancelEndExact.
-/
import Derived.Test.Qxb6614809aLeaf
namespace Go.Proofs.Qxb6614809a
open Go.RowKit
set_option linter.unusedVariables false

set_option maxHeartbeats 400000 in
theorem bytes_any (a0 : Option Addr) (l0 c0 : Nat) (a1 : Option Addr) (l1 c1 : Nat) (a2 : Option Addr) (l2 c2 : Nat) (a3 : Option Addr) (l3 c3 : Nat) (a4 : Option Addr) (l4 c4 : Nat) (p : Int) (w : World)
    (h0 : l0 ≤ maxLen) (h1 : l1 ≤ maxLen) (h2 : l2 ≤ maxLen) (h3 : l3 ≤ maxLen) (h4 : l4 ≤ maxLen) :
    Calls Try.prog 4 #[.slice a0 l0 c0, .slice a1 l1 c1, .slice a2 l2 c2, .slice a3 l3 c3, .slice a4 l4 c4, .int .i64 p] w fun e w' => (∃ b : Bool, e = .returned (.bool b)) ∧ w' = w := by
  unfold maxLen at h0 h1 h2 h3 h4
  go_enter Try.func4, Try.ntmps4
  go_wp2
  all_goals (go_ret; exact ⟨⟨_, rfl⟩, rfl⟩)

def FE (K R : List Int) (p j : Int) : Prop := (j = -1 ∧ ∀ i, i < K.length → ¬ (K.getD i 0 = 2 ∧ R.getD i 0 = p)) ∨ ∃ i : Nat, j = i ∧ i < K.length ∧ K.getD i 0 = 2 ∧ R.getD i 0 = p

set_option maxHeartbeats 400000 in
theorem findEnd_any (a : Option Addr) (cap : Nat) (K : List Int) (a' : Option Addr) (cap' : Nat) (R : List Int) (p : Int) (w : World) (h : Ints .u8 w a K) (h' : Ints .i64 w a' R) (hl : K.length ≤ 4096) (hKR : K.length = R.length) :
    Calls Try.prog 7 #[.slice a K.length cap, .slice a' R.length cap', .int .i64 p] w fun e w' => (∃ j : Int, e = .returned (.int .i64 j) ∧ FE K R p j) ∧ w' = w := by
  have HK : Hid (K.length = R.length) := hKR
  obtain ⟨nR, hnR⟩ : ∃ n, n = R.length := ⟨_, rfl⟩
  have HnR : Hid (nR = R.length) := hnR
  rw [← hnR]
  clear hKR hnR
  have hle : K.length ≤ nR := by rw [HK.out, HnR.out]; omega
  go_enter Try.func7, Try.ntmps7
  go_wp2
  go_loop [7, 8] (fun j i => ∃ k : Nat, k ≤ K.length ∧ i = .int .i64 k ∧ ∃ jj : Int, j = .int .i64 jj ∧ ((jj = -1 ∧ ∀ i, i < k → ¬ (K.getD i 0 = 2 ∧ R.getD i 0 = p)) ∨ ∃ i : Nat, jj = i ∧ i < K.length ∧ K.getD i 0 = 2 ∧ R.getD i 0 = p)) (fun _ i => K.length - (intOf i).toNat)
  case atStart => exact ⟨0, Nat.zero_le _, rfl, -1, rfl, .inl ⟨rfl, fun i h => absurd h (by omega)⟩⟩
  case round =>
    obtain ⟨k, hk, rfl, jj, rfl, hj⟩ := hrel
    have HJ : Hid ((jj = -1 ∧ ∀ i, i < k → ¬ (K.getD i 0 = 2 ∧ R.getD i 0 = p)) ∨ ∃ i : Nat, jj = i ∧ i < K.length ∧ K.getD i 0 = 2 ∧ R.getD i 0 = p) := hj
    clear hj
    by_cases hlt : k < K.length
    · have hlt' : k < R.length := by have := HK.out; omega
      have hlt2 : k < nR := by have := HK.out; omega
      obtain ⟨b, off, rfl, hc⟩ := h.at hlt
      obtain ⟨b', off', rfl, hc'⟩ := h'.at hlt'
      have hck := hc k hlt
      have hck' := hc' k hlt'
      clear hc hc' h h'
      have hone : ∀ i, i < k + 1 → i < k ∨ i = k := fun i hi => by omega
      by_cases hk2 : K.getD k 0 = 2
      · rw [hk2] at hck
        by_cases hr2 : R.getD k 0 = p
        · have HH : Hid (K.getD k 0 = 2 ∧ R.getD k 0 = p) := ⟨hk2, hr2⟩
          rw [hr2] at hck'
          clear hk2 hr2
          go_wp2
          go_round
          case rel => exact ⟨k + 1, by omega, by go_num, k, rfl, .inr ⟨k, rfl, hlt, HH.out.1, HH.out.2⟩⟩
          case measure => simp [intOf]; omega
        · have HH : Hid (¬ (K.getD k 0 = 2 ∧ R.getD k 0 = p)) := fun h => hr2 h.2
          have hb : (R.getD k 0 == p) = false := by simpa using hr2
          generalize hrk : R.getD k 0 = rk at *
          have HRK : Hid (R.getD k 0 = rk) := hrk
          clear hk2 hr2 hrk
          go_wp2
          go_round
          case rel =>
            exact ⟨k + 1, by omega, by go_num, jj, rfl, HJ.out.elim (fun h => .inl ⟨h.1, fun i hi => (hone i hi).elim (fun h1 => h.2 i h1) (fun h1 => by subst h1; rw [HRK.out]; exact HH.out)⟩) .inr⟩
          case measure => simp [intOf]; omega
      · have hb : (K.getD k 0 == 2) = false := by simpa using hk2
        have HH : Hid (¬ (K.getD k 0 = 2 ∧ R.getD k 0 = p)) := fun h => hk2 h.1
        generalize hkk : K.getD k 0 = kk at *
        have HKK : Hid (K.getD k 0 = kk) := hkk
        clear hk2 hkk
        go_wp2
        go_round
        case rel =>
          exact ⟨k + 1, by omega, by go_num, jj, rfl, HJ.out.elim (fun h => .inl ⟨h.1, fun i hi => (hone i hi).elim (fun h1 => h.2 i h1) (fun h1 => by subst h1; rw [HKK.out]; exact HH.out)⟩) .inr⟩
        case measure => simp [intOf]; omega
    · go_wp2
      go_ret
      have hkk : k = K.length := by omega
      exact ⟨⟨jj, rfl, HJ.out.elim (fun h => .inl ⟨h.1, fun i hi => h.2 i (by omega)⟩) .inr⟩, rfl⟩

def endIsB (t : Int) (ok : Bool) (w : Int) (atw : Int) : Bool := if w < 0 then !ok && decide (t = 0) else ok && decide (t = atw)

set_option maxHeartbeats 400000 in
theorem endIs_no (a : Option Addr) (l cap : Nat) (w : World) :
    Calls Try.prog 12 #[.int .i64 0, .bool false, .slice a l cap, .int .i64 (-1)] w fun e w' => e = .returned (.bool true) ∧ w' = w := by
  go_enter Try.func12, Try.ntmps12
  go_wp2
  go_ret
  exact ⟨rfl, rfl⟩

set_option maxHeartbeats 400000 in
theorem endIs_yes (a : Option Addr) (cap : Nat) (A : List Int) (j : Nat) (hj : j < A.length) (hl : A.length ≤ 4096) (w : World) (h : Ints .i64 w a A) :
    Calls Try.prog 12 #[.int .i64 (A.getD j 0), .bool true, .slice a A.length cap, .int .i64 j] w fun e w' => e = .returned (.bool true) ∧ w' = w := by
  obtain ⟨b, off, rfl, hc⟩ := h.at hj
  have hck := hc j hj
  clear hc h
  generalize A.getD j 0 = x at *
  go_enter Try.func12, Try.ntmps12
  go_wp2
  go_ret
  exact ⟨rfl, rfl⟩

end Go.Proofs.Qxb6614809a
