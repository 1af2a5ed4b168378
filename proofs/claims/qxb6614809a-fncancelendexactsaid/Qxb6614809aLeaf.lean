/-
  Contracts of the leaves on the road of FnCancelEndExact.
-/
import Derived.Test.Qxb6614809aRows
import Derived.WalkKit
import Derived.WalkSpells
import Derived.Below
import Derived.Outline
import Derived.Deep.QuietTactic
import Derived.BigQuiet
namespace Go.Proofs.Qxb6614809a
open Go.RowKit
set_option linter.unusedVariables false

/-- the first 'zs.length' elements of a slice of integers -/
def Ints (k : IntKind) (w : World) (a : Option Addr) (zs : List Int) : Prop :=
  zs = [] ∨ ∃ b off, a = some ⟨b, off, none⟩ ∧ ∀ i, i < zs.length → w.cell? ⟨b, off + i, none⟩ = some (.int k (zs.getD i 0))

theorem Ints.at {k : IntKind} {w : World} {a : Option Addr} {zs : List Int} (h : Ints k w a zs) {i : Nat} (hi : i < zs.length) :
    ∃ b off, a = some ⟨b, off, none⟩ ∧ ∀ i, i < zs.length → w.cell? ⟨b, off + i, none⟩ = some (.int k (zs.getD i 0)) := by
  rcases h with rfl | h
  · simp at hi
  · exact h

theorem ret_int {k : IntKind} {a b : Int} (h : a = b) : Ending.returned (.int k a) = .returned (.int k b) := by rw [h]

def beforeB (a1 s1 a2 s2 : Int) : Bool := decide (a1 < a2 ∨ (a1 = a2 ∧ s1 < s2))

set_option maxHeartbeats 400000 in
theorem before_any (a1 s1 a2 s2 : Int) (w : World) :
    Calls Try.prog 14 #[.int .i64 a1, .int .u64 s1, .int .i64 a2, .int .u64 s2] w fun e w' => e = .returned (.bool (beforeB a1 s1 a2 s2)) ∧ w' = w := by
  by_cases h1 : a1 < a2
  · have e1 : beforeB a1 s1 a2 s2 = true := by simp [beforeB, h1]
    rw [e1]; clear e1
    go_enter Try.func14, Try.ntmps14
    go_wp2
    go_ret
    exact ⟨rfl, rfl⟩
  · by_cases h2 : a1 = a2
    · subst h2
      have e1 : beforeB a1 s1 a1 s2 = decide (s1 < s2) := by simp [beforeB]
      rw [e1]; clear e1
      go_enter Try.func14, Try.ntmps14
      go_wp2
      go_ret
      exact ⟨rfl, rfl⟩
    · have e1 : beforeB a1 s1 a2 s2 = false := by simp [beforeB, h1, h2]
      rw [e1]; clear e1
      have h3 : (a1 == a2) = false := by simpa using h2
      clear h2
      go_enter Try.func14, Try.ntmps14
      go_wp2
      go_ret
      exact ⟨rfl, rfl⟩

set_option maxHeartbeats 400000 in
theorem findSeq_any (a : Option Addr) (cap : Nat) (zs : List Int) (s : Int) (w : World) (h : Ints .u64 w a zs) (hl : zs.length ≤ 4096) :
    Calls Try.prog 15 #[.slice a zs.length cap, .int .u64 s] w fun e w' => (∃ j : Int, e = .returned (.int .i64 j) ∧
      ((j = -1 ∧ ∀ i, i < zs.length → zs.getD i 0 ≠ s) ∨ ∃ i : Nat, j = i ∧ i < zs.length ∧ zs.getD i 0 = s ∧ ∀ i', i' < i → zs.getD i' 0 ≠ s)) ∧ w' = w := by
  go_enter Try.func15, Try.ntmps15
  go_wp2
  go_loop [5] (fun i => ∃ k : Nat, k ≤ zs.length ∧ i = .int .i64 k ∧ ∀ i', i' < k → zs.getD i' 0 ≠ s) (fun i => zs.length - (intOf i).toNat)
  case atStart => exact ⟨0, Nat.zero_le _, rfl, fun i h => absurd h (by omega)⟩
  case round =>
    obtain ⟨k, hk, rfl, hn⟩ := hrel
    have HN : Hid (∀ i', i' < k → zs.getD i' 0 ≠ s) := hn
    clear hn
    by_cases hlt : k < zs.length
    · obtain ⟨b, off, rfl, hc⟩ := h.at hlt
      have hck := hc k hlt
      have HG : Hid (zs.getD k 0 = zs[k]?.getD 0) := by simp [Hid]
      clear hc h
      go_wp2
      · go_ret
        exact ⟨⟨k, rfl, .inr ⟨k, rfl, hlt, by simp_all, HN.out⟩⟩, rfl⟩
      · go_round
        case rel => exact ⟨k + 1, by omega, by go_num, fun i' hi' => by
          rcases Nat.lt_succ_iff_lt_or_eq.1 hi' with h | h
          · exact HN.out i' h
          · subst h; simp_all⟩
        case measure => simp [intOf]; omega
    · go_wp2
      go_ret
      exact ⟨⟨-1, rfl, .inl ⟨rfl, fun i hi => HN.out i (by omega)⟩⟩, rfl⟩

end Go.Proofs.Qxb6614809a
