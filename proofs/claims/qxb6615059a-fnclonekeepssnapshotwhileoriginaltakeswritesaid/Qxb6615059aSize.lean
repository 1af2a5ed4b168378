/-
  zzBytes_.., zzSizeOK.
-/
import Derived.Test.Qxb6615059aBase
namespace Go.Proofs.Qxb6615059a
open Go.RowKit
set_option linter.unusedVariables false

def BOut (e : Ending) : Prop := ∃ b : Bool, e = .returned (.bool b)
theorem BOut.mk (b : Bool) : BOut (.returned (.bool b)) := ⟨b, rfl⟩

set_option maxRecDepth 100000 in
set_option maxHeartbeats 1000000 in
theorem bytes_any (a : Option Addr) (m c : Nat) (ks : Nat → ByteArray) (va : Nat → Option Addr) (zs : Nat → List Int) (vc : Nat → Nat) (n : Int) (xs : Array Value) (k2 : ByteArray) (a2 : Option Addr) (l2 c2 : Nat) (w : World) (h : PIn w a m ks va zs vc) (hm : m ≤ maxLen) (hk : k2.size ≤ maxLen) (h2 : l2 ≤ maxLen) :
    Calls Try.prog 4 #[.slice a m c, .int .u64 n, .agg xs, .string k2, .slice a2 l2 c2] w fun e w' => BOut e ∧ Below w.heap.size w w' := by
  unfold maxLen at hm hk h2
  have HP : Hid (PIn w a m ks va zs vc) := h
  clear h
  by_cases hm1 : (1048576 : Int) < (m : Int)
  · go_enter Try.func4, Try.ntmps4
    go_wp2
    go_ret
    exact ⟨BOut.mk _, (Below.refl _ _).alloc (Nat.le_refl _) _⟩
  go_enter Try.func4, Try.ntmps4
  go_wp2
  go_loop [11, 12] (fun t i => ∃ (k : Nat) (z : Int), k ≤ m ∧ i = .int .i64 k ∧ t = .int .i64 z ∧ 0 ≤ z ∧ z ≤ 1048576) (fun _ i => m - (intOf i).toNat)
  case atStart => exact ⟨0, m, Nat.zero_le _, rfl, rfl, by omega, by omega⟩
  case round =>
    obtain ⟨k, z, hk, rfl, rfl, hz0, hz1⟩ := hrel
    by_cases hlt : k < m
    · have hB : Below w.heap.size w (w.alloc (.cells xs 24)) := (Below.refl _ _).alloc (Nat.le_refl _) _
      obtain ⟨b, off, rfl, hc⟩ := (HP.out.below hB).at (by omega)
      obtain ⟨hck, hcv⟩ := hc k hlt
      have hkl := HP.out.kl k hlt
      have hzl := HP.out.zl k hlt
      unfold maxLen at hkl hzl
      clear hc hB
      generalize ks k = key at *
      generalize va k = vk at *
      generalize (zs k).length = zl at *
      generalize vc k = vck at *
      go_wp2
      any_goals (go_ret; exact ⟨BOut.mk _, (Below.refl _ _).alloc (Nat.le_refl _) _⟩)
      go_round
      case rel => exact ⟨k + 1, _, by omega, by go_num, rfl, by omega, by omega⟩
      case measure => simp [intOf]; omega
    · go_wp2
      all_goals (go_ret; exact ⟨BOut.mk _, (Below.refl _ _).alloc (Nat.le_refl _) _⟩)

/-- what a 'true' of zzSizeOK says -/
structure SZ (m : Nat) (zs : Nat → List Int) (l2 : Nat) : Prop where
  hm : m ≤ 65536
  hz : ∀ j, j < m → (zs j).length ≤ 1048576
  h2 : l2 ≤ 1048576
def SOut (m : Nat) (zs : Nat → List Int) (l2 : Nat) (e : Ending) : Prop := ∃ b : Bool, e = .returned (.bool b) ∧ (b = true → SZ m zs l2)
theorem SOut.no (m : Nat) (zs : Nat → List Int) (l2 : Nat) : SOut m zs l2 (.returned (.bool false)) := ⟨false, rfl, fun h => by cases h⟩
theorem SOut.yes {m : Nat} {zs : Nat → List Int} {l2 : Nat} (h : SZ m zs l2) : SOut m zs l2 (.returned (.bool true)) := ⟨true, rfl, fun _ => h⟩

set_option maxRecDepth 100000 in
set_option maxHeartbeats 1000000 in
theorem size_any (a : Option Addr) (m c : Nat) (ks : Nat → ByteArray) (va : Nat → Option Addr) (zs : Nat → List Int) (vc : Nat → Nat) (k2 : ByteArray) (a2 : Option Addr) (l2 c2 : Nat) (w : World) (h : PIn w a m ks va zs vc) (hm : m ≤ maxLen) (hk : k2.size ≤ maxLen) (h2 : l2 ≤ maxLen) :
    Calls Try.prog 5 #[.slice a m c, .string k2, .string ⟨#[]⟩, .slice a2 l2 c2] w fun e w' => SOut m zs l2 e ∧ w' = w := by
  unfold maxLen at hm hk h2
  have HP : Hid (PIn w a m ks va zs vc) := h
  clear h
  by_cases hm1 : (65536 : Int) < (m : Int)
  · go_enter Try.func5, Try.ntmps5
    go_wp2
    go_ret
    exact ⟨SOut.no _ _ _, rfl⟩
  by_cases hk1 : (1048576 : Int) < (k2.size : Int)
  · go_enter Try.func5, Try.ntmps5
    go_wp2
    go_ret
    exact ⟨SOut.no _ _ _, rfl⟩
  by_cases hl1 : (1048576 : Int) < (l2 : Int)
  · go_enter Try.func5, Try.ntmps5
    go_wp2
    go_ret
    exact ⟨SOut.no _ _ _, rfl⟩
  go_enter Try.func5, Try.ntmps5
  go_wp2
  any_goals (go_ret; exact ⟨SOut.no _ _ _, rfl⟩)
  go_loop [9, 10] (fun t i => ∃ (k : Nat) (z : Int), k ≤ m ∧ i = .int .i64 k ∧ t = .int .i64 z ∧ 0 ≤ z ∧ z ≤ 1048576 ∧ ∀ j, j < k → (zs j).length ≤ 1048576) (fun _ i => m - (intOf i).toNat)
  case atStart => exact ⟨0, _, Nat.zero_le _, rfl, rfl, by omega, by omega, fun j hj => absurd hj (by omega)⟩
  case round =>
    obtain ⟨k, z, hk, rfl, rfl, hz0, hz1, hzs⟩ := hrel
    have HZ : Hid (∀ j, j < k → (zs j).length ≤ 1048576) := hzs
    clear hzs
    by_cases hlt : k < m
    · obtain ⟨b, off, rfl, hc⟩ := HP.out.at (by omega)
      obtain ⟨hck, hcv⟩ := hc k hlt
      have hkl := HP.out.kl k hlt
      have hzl := HP.out.zl k hlt
      unfold maxLen at hkl hzl
      clear hc
      generalize ks k = key at *
      generalize va k = vk at *
      generalize hzlk : (zs k).length = zl at *
      have HZK : Hid ((zs k).length = zl) := hzlk
      clear hzlk
      generalize vc k = vck at *
      by_cases u1 : (1048576 : Int) < (key.size : Int)
      · go_wp2
        go_ret
        exact ⟨SOut.no _ _ _, rfl⟩
      by_cases u2 : (1048576 : Int) < (zl : Int)
      · go_wp2
        go_ret
        exact ⟨SOut.no _ _ _, rfl⟩
      go_wp2
      any_goals (go_ret; exact ⟨SOut.no _ _ _, rfl⟩)
      go_round
      case rel => exact ⟨k + 1, _, by omega, by go_num, rfl, by omega, by omega, fun j hj => by
        rcases Nat.lt_succ_iff_lt_or_eq.1 hj with h | h
        · exact HZ.out j h
        · subst h; rw [HZK.out]; omega⟩
      case measure => simp [intOf]; omega
    · go_wp2
      go_ret
      have hkm : k = m := by omega
      exact ⟨SOut.yes ⟨by omega, fun j hj => HZ.out j (by omega), by omega⟩, rfl⟩

end Go.Proofs.Qxb6615059a
