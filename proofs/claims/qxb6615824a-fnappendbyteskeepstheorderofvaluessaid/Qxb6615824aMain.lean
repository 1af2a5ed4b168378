/-
  FnAppendBytesKeepsTheOrderOfValues: the walk.
-/
import Derived.Test.Qxb6615824aApp
namespace Go.Proofs.Qxb6615824a
open Go.RowKit
set_option linter.unusedVariables false

/-- A clone: of no address, or a new block's. -/
def Own (a : Option Addr) (n : Nat) : Prop := (a = none ∧ n = 0) ∨ ∃ g, a = some ⟨g, 0, none⟩

theorem cloneB_any (a : Option Addr) (n cap : Nat) (f : Nat → Int) (w : World) (h : Bys w a n f) (ha : a = none → n = 0 ∧ cap = 0) (hn : n ≤ 1048576) :
    Calls Try.prog 10 #[.slice a n cap] w fun e w' => ∃ a', e = .returned (.slice a' n n) ∧ Bys w' a' n f ∧ Own a' n ∧ Below w.heap.size w w' := by
  cases a with
  | none =>
    obtain ⟨rfl, rfl⟩ := ha rfl
    refine (cloneB_nil w).mono ?_
    rintro e w' ⟨rfl, hw⟩
    rw [hw]
    exact ⟨none, rfl, .inl rfl, .inl ⟨rfl, rfl⟩, Below.refl _ _⟩
  | some x =>
    refine (cloneB_some x n cap f w h hn).mono ?_
    rintro e w' ⟨rfl, hF⟩
    exact ⟨_, rfl, .inr ⟨w.heap.size, 0, rfl, hF.sz, fun i hi => by rw [Nat.zero_add]; exact hF.lo i hi⟩, .inr ⟨_, rfl⟩, hF.bel⟩

theorem Own.nil {a : Option Addr} {n : Nat} (h : Own a n) : a = none → n = 0 ∧ n = 0 := by
  rcases h with ⟨_, h⟩ | ⟨g, h⟩
  · exact fun _ => ⟨h, h⟩
  · intro e; rw [h] at e; cases e

theorem later (n i : Nat) (x : Int) (s : ByteArray) : (if n + i < n then x else byteAt s (n + i - n)) = byteAt s i := by
  rw [if_neg (by omega), Nat.add_sub_cancel_left]

theorem below_drewN (w : World) (q : Nat) : Below w.heap.size w (w.drewN q) := ⟨rfl, rfl, rfl, Nat.le_refl _, fun _ _ => rfl⟩

set_option maxRecDepth 100000 in
set_option maxHeartbeats 1000000 in
theorem keeps_main (a : Option Addr) (n cap : Nat) (f : Nat → Int) (s t : ByteArray) (w : World) (h : Bys w a n f) (ha : a = none → n = 0 ∧ cap = 0) (hn : n ≤ 262144) (hs : s.size ≤ 262144) (ht : t.size ≤ 262144) :
    Calls Try.prog 4 #[.slice a n cap, .string s, .string t] w fun e w' => e = .returned (.bool true) ∧ Below w.heap.size w w' := by
  have HB : Hid (∀ w, Calls Try.prog 9 #[.slice a n cap, .string s, .string t] w fun e w' => BOut e ∧ w' = w) := fun w => bytes9 a n cap s t w (by unfold maxLen; omega) (by unfold maxLen; omega) (by unfold maxLen; omega)
  have HC : Hid (Calls Try.prog 10 #[.slice a n cap] w fun e w' => ∃ a', e = .returned (.slice a' n n) ∧ Bys w' a' n f ∧ Own a' n ∧ Below w.heap.size w w') := cloneB_any a n cap f w h ha (by omega)
  clear h ha
  go_enter Try.func4, Try.ntmps4
  go_wp2_with fail
  refine (HB.out _).mono ?_
  rintro e w' ⟨⟨b, rfl⟩, hw⟩
  rw [hw]; clear hw
  cases b
  · go_wp2
    go_ret
    exact ⟨rfl, Below.refl _ _⟩
  go_wp2_with fail
  refine HC.out.mono ?_
  rintro e w1 ⟨a1, rfl, h1⟩
  have H1 : Hid (Bys w1 a1 n f ∧ Own a1 n ∧ Below w.heap.size w w1) := h1
  clear h1 HC HB
  go_wp2_with fail
  refine (cloneB_any a1 n n f w1 H1.out.1 H1.out.2.1.nil (by omega)).mono ?_
  rintro e w2 ⟨a2, rfl, h2⟩
  have H2 : Hid (Bys w2 a2 n f ∧ Own a2 n ∧ Below w1.heap.size w1 w2) := h2
  clear h2
  go_wp2_with fail
  refine (cloneB_any a1 n n f w2 (H1.out.1.below H2.out.2.2) H1.out.2.1.nil (by omega)).mono ?_
  rintro e w3 ⟨a3, rfl, h3⟩
  have H3 : Hid (Bys w3 a3 n f ∧ Own a3 n ∧ Below w2.heap.size w2 w3) := h3
  clear h3
  go_wp2_with fail
  refine (app11 a2 n f s w3 (H2.out.1.below H3.out.2.2) H2.out.2.1 (by omega) (by omega)).mono ?_
  rintro e w4 ⟨a4, c4, rfl, h4⟩
  have H4 : Hid (Bys w4 a4 (n + s.size) (fun i => if i < n then f i else byteAt s (i - n)) ∧ Below w3.heap.size w3 w4) := h4
  clear h4
  go_wp2_with fail
  refine (app11 a3 n f t w4 (H3.out.1.below H4.out.2) H3.out.2.1 (by omega) (by omega)).mono ?_
  rintro e w5 ⟨a5, c5, rfl, h5⟩
  have H5 : Hid (Bys w5 a5 (n + t.size) (fun i => if i < n then f i else byteAt t (i - n)) ∧ Below w4.heap.size w4 w5) := h5
  clear h5
  go_wp2_with fail
  refine (cmpB a4 a5 (n + s.size) (n + t.size) c4 c5 _ _ w5 (H4.out.1.below H5.out.2) H5.out.1 (by omega) (by omega)).mono ?_
  rintro e w6 ⟨r, rfl, hr, q6, h6⟩
  have H6 : Hid (IsCmp (n + s.size) (n + t.size) (fun i => if i < n then f i else byteAt s (i - n)) (fun i => if i < n then f i else byteAt t (i - n)) r ∧ w6 = w5.drewN q6) := ⟨hr, h6⟩
  clear hr h6
  go_wp2_with fail
  refine (cmpS s t w6 (by omega) (by omega)).mono ?_
  rintro e w7 ⟨r', rfl, hr, q7, h7⟩
  have hrr : r = r' := hr.shift H6.out.1 (fun i hi => by simp [hi]) (fun i hi => later n i _ s) (fun i hi => later n i _ t)
  have H7 : Hid (w7 = w6.drewN q7) := h7
  clear hr h7
  subst hrr
  have ee : (r == r) = true := by simp
  go_wp2
  go_ret
  refine ⟨rfl, ?_⟩
  have b1 := H1.out.2.2
  have b2 := b1.trans (H2.out.2.2.mono b1.size)
  have b3 := b2.trans (H3.out.2.2.mono b2.size)
  have b4 := b3.trans (H4.out.2.mono b3.size)
  have b5 := b4.trans (H5.out.2.mono b4.size)
  have b6 := b5.trans ((below_drewN w5 q6).mono b5.size)
  rw [← H6.out.2] at b6
  have b7 := b6.trans ((below_drewN w6 q7).mono b6.size)
  rw [← H7.out] at b7
  exact b7

set_option maxRecDepth 100000 in
set_option maxHeartbeats 1000000 in
theorem keeps_early (a : Option Addr) (n cap : Nat) (s t : ByteArray) (w : World) (hn : n ≤ maxLen) (hs : s.size ≤ maxLen) (ht : t.size ≤ maxLen)
    (h : (262144 : Int) < (n : Int) ∨ (¬ (262144 : Int) < (n : Int) ∧ (262144 : Int) < (s.size : Int)) ∨ (¬ (262144 : Int) < (n : Int) ∧ ¬ (262144 : Int) < (s.size : Int) ∧ (262144 : Int) < (t.size : Int))) :
    Calls Try.prog 4 #[.slice a n cap, .string s, .string t] w fun e w' => e = .returned (.bool true) ∧ Below w.heap.size w w' := by
  have HB : Hid (∀ w, Calls Try.prog 9 #[.slice a n cap, .string s, .string t] w fun e w' => BOut e ∧ w' = w) := fun w => bytes9 a n cap s t w hn hs ht
  unfold maxLen at hn hs ht
  rcases h with h | ⟨h0, h⟩ | ⟨h0, h1, h⟩
  all_goals
    go_enter Try.func4, Try.ntmps4
    go_wp2_with fail
    refine (HB.out _).mono ?_
    rintro e w' ⟨⟨b, rfl⟩, hw⟩
    rw [hw]; clear hw
    cases b
    · go_wp2
      go_ret
      exact ⟨rfl, Below.refl _ _⟩
    · go_wp2
      go_ret
      exact ⟨rfl, Below.refl _ _⟩
end Go.Proofs.Qxb6615824a
