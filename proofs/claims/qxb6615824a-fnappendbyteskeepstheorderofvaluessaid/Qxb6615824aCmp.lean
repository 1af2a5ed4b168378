/-
  FnAppendBytesKeepsTheOrderOfValues: the two comparisons.
-/
import Derived.Test.Qxb6615824aRows
import Derived.WalkKit
import Derived.WalkSpells
import Derived.Below
import Derived.Outline
import Derived.Deep.QuietTactic
import Derived.BigQuiet
import Derived.Deep.Draws
namespace Go.Proofs.Qxb6615824a
open Go.RowKit
set_option linter.unusedVariables false

/-- A fact that the walk's own simp does not see. -/
def Hid (p : Prop) : Prop := p
theorem Hid.out {p : Prop} (h : Hid p) : p := h

/-- What a comparison answers. -/
def IsCmp (n m : Nat) (f g : Nat → Int) (r : Int) : Prop :=
  (∃ i, i < n ∧ i < m ∧ (∀ j, j < i → f j = g j) ∧ ((f i < g i ∧ r = -1) ∨ (g i < f i ∧ r = 1))) ∨
  ((∀ j, j < n → j < m → f j = g j) ∧ ((n < m ∧ r = -1) ∨ (m < n ∧ r = 1) ∨ (n = m ∧ r = 0)))

theorem IsCmp.shift {d n m : Nat} {f g F G : Nat → Int} {r r' : Int} (h : IsCmp n m f g r) (h' : IsCmp (d + n) (d + m) F G r') (hd : ∀ i, i < d → F i = G i) (hF : ∀ i, i < n → F (d + i) = f i) (hG : ∀ i, i < m → G (d + i) = g i) : r' = r := by
  rcases h with ⟨i, hi, hi', he, hc⟩ | ⟨he, hc⟩
  · rcases h' with ⟨j, hj, hj', he', hc'⟩ | ⟨he', hc'⟩
    · by_cases hjd : j < d
      · have := hd j hjd; omega
      obtain ⟨k, rfl⟩ : ∃ k, j = d + k := ⟨j - d, by omega⟩
      have a1 := hF k (by omega)
      have a2 := hG k (by omega)
      have b1 := hF i hi
      have b2 := hG i hi'
      rcases Nat.lt_trichotomy k i with hk | hk | hk
      · have := he k hk; omega
      · subst hk; omega
      · have := he' (d + i) (by omega); omega
    · have b1 := hF i hi
      have b2 := hG i hi'
      have := he' (d + i) (by omega) (by omega)
      omega
  · rcases h' with ⟨j, hj, hj', he', hc'⟩ | ⟨he', hc'⟩
    · by_cases hjd : j < d
      · have := hd j hjd; omega
      obtain ⟨k, rfl⟩ : ∃ k, j = d + k := ⟨j - d, by omega⟩
      have a1 := hF k (by omega)
      have a2 := hG k (by omega)
      have := he k (by omega) (by omega)
      omega
    · omega

theorem drewN_two (w : World) (p q : Nat) : (w.drewN p).drewN q = w.drewN (p + q) := by simp [World.drewN, Nat.add_assoc]

theorem ex1 {w wr : World} {q : Nat} (h : wr = w.drewN q) (a : Nat) : ∃ q', wr.drewN a = w.drewN q' := ⟨q + a, by rw [h, drewN_two]⟩
theorem ex2 {w wr : World} {q : Nat} (h : wr = w.drewN q) (a b : Nat) : ∃ q', (wr.drewN a).drewN b = w.drewN q' := ⟨q + (a + b), by rw [h, drewN_two, drewN_two]⟩

/-- The first n elements of a slice of bytes. -/
def Bys (w : World) (a : Option Addr) (n : Nat) (f : Nat → Int) : Prop :=
  n = 0 ∨ ∃ b off, a = some ⟨b, off, none⟩ ∧ b < w.heap.size ∧ ∀ i, i < n → w.cell? ⟨b, off + i, none⟩ = some (.int .u8 (f i))

theorem Bys.at {w : World} {a : Option Addr} {n : Nat} {f : Nat → Int} (h : Bys w a n f) {i : Nat} (hi : i < n) : ∃ b off, a = some ⟨b, off, none⟩ ∧ b < w.heap.size ∧ ∀ i, i < n → w.cell? ⟨b, off + i, none⟩ = some (.int .u8 (f i)) := by
  rcases h with rfl | h
  · omega
  · exact h
theorem Bys.below {w w' : World} {a : Option Addr} {n : Nat} {f : Nat → Int} (h : Bys w a n f) (hb : Below w.heap.size w w') : Bys w' a n f := by
  rcases h with h | ⟨b, off, ha, hl, hc⟩
  · exact .inl h
  · exact .inr ⟨b, off, ha, Nat.lt_of_lt_of_le hl hb.size, fun i hi => (hb.cell (p := ⟨b, off + i, none⟩) hl).trans (hc i hi)⟩
theorem Bys.drewN {w : World} {a : Option Addr} {n : Nat} {f : Nat → Int} (h : Bys w a n f) (q : Nat) : Bys (w.drewN q) a n f := by
  rcases h with h | ⟨b, off, ha, hl, hc⟩
  · exact .inl h
  · exact .inr ⟨b, off, ha, hl, fun i hi => (World.cell?_drewN w q _).trans (hc i hi)⟩

set_option maxRecDepth 100000 in
set_option maxHeartbeats 1000000 in
theorem cmpB (a b : Option Addr) (n m ca cb : Nat) (f g : Nat → Int) (w : World) (ha : Bys w a n f) (hb : Bys w b m g) (hn : n ≤ 1048576) (hm : m ≤ 1048576) :
    Calls Try.prog 12 #[.slice a n ca, .slice b m cb] w fun e w' => ∃ r, e = .returned (.int .i64 r) ∧ IsCmp n m f g r ∧ ∃ q, w' = w.drewN q := by
  have HA : Hid (Bys w a n f ∧ Bys w b m g) := ⟨ha, hb⟩
  clear ha hb
  go_enter Try.func12, Try.ntmps12
  go_wp2
  go_loopw [5] (fun i wr => ∃ k : Nat, k ≤ n ∧ k ≤ m ∧ i = .int .i64 k ∧ (∀ j, j < k → f j = g j) ∧ ∃ q, wr = w.drewN q) (fun i _ => n - (intOf i).toNat)
  case atStart => exact ⟨0, Nat.zero_le _, Nat.zero_le _, rfl, fun j h => absurd h (by omega), 0, rfl⟩
  case round =>
    obtain ⟨k, hkn, hkm, rfl, he, q, hq⟩ := hrel
    have HE : Hid ((∀ j, j < k → f j = g j) ∧ wr = w.drewN q) := ⟨he, hq⟩
    clear he hq
    by_cases hlt : k < n
    · by_cases hlt' : k < m
      · obtain ⟨b1, o1, rfl, hl1, hc1⟩ := HA.out.1.at hlt
        obtain ⟨b2, o2, rfl, hl2, hc2⟩ := HA.out.2.at hlt'
        have c1 : wr.cell? ⟨b1, o1 + k, none⟩ = some (.int .u8 (f k)) := by rw [HE.out.2, World.cell?_drewN]; exact hc1 k hlt
        have c2 : wr.cell? ⟨b2, o2 + k, none⟩ = some (.int .u8 (g k)) := by rw [HE.out.2, World.cell?_drewN]; exact hc2 k hlt'
        clear hc1 hc2
        obtain ⟨x, hx⟩ : ∃ x, f k = x := ⟨_, rfl⟩
        obtain ⟨y, hy⟩ : ∃ y, g k = y := ⟨_, rfl⟩
        rw [hx] at c1
        rw [hy] at c2
        have HXY : Hid (f k = x ∧ g k = y) := ⟨hx, hy⟩
        clear hx hy
        by_cases h1 : x < y
        · go_wp2_with fail
          go_quiet (fail)
          go_wp2_with fail
          go_ret
          exact ⟨-1, rfl, .inl ⟨k, hlt, hlt', HE.out.1, .inl ⟨by rw [HXY.out.1, HXY.out.2]; exact h1, rfl⟩⟩, by first | exact ex1 HE.out.2 _ | exact ex2 HE.out.2 _ _⟩
        · by_cases h2 : y < x
          · go_wp2_with fail
            go_quiet (fail)
            go_wp2_with fail
            go_quiet (fail)
            go_wp2_with fail
            go_ret
            exact ⟨1, rfl, .inl ⟨k, hlt, hlt', HE.out.1, .inr ⟨by rw [HXY.out.1, HXY.out.2]; exact h2, rfl⟩⟩, by first | exact ex1 HE.out.2 _ | exact ex2 HE.out.2 _ _⟩
          · go_wp2_with fail
            go_quiet (fail)
            go_wp2_with fail
            go_quiet (fail)
            go_wp2_with fail
            go_roundw
            case rel => exact ⟨k + 1, by omega, by omega, by go_num, fun j hj => by
              rcases Nat.lt_succ_iff_lt_or_eq.1 hj with h | h
              · exact HE.out.1 j h
              · subst h; rw [HXY.out.1, HXY.out.2]; omega, by first | exact ex1 HE.out.2 _ | exact ex2 HE.out.2 _ _⟩
            case measure => simp [intOf]; omega
      · have hnm : m < n := by omega
        go_wp2_with fail
        go_ret
        exact ⟨1, rfl, .inr ⟨fun j h1 h2 => HE.out.1 j (by omega), .inr (.inl ⟨hnm, rfl⟩)⟩, q, HE.out.2⟩
    · by_cases hnm : n < m
      · go_wp2_with fail
        go_ret
        exact ⟨-1, rfl, .inr ⟨fun j h1 h2 => HE.out.1 j (by omega), .inl ⟨hnm, rfl⟩⟩, q, HE.out.2⟩
      · have hnm' : n = m := by omega
        go_wp2_with fail
        go_ret
        exact ⟨0, rfl, .inr ⟨fun j h1 h2 => HE.out.1 j (by omega), .inr (.inr ⟨hnm', rfl⟩)⟩, q, HE.out.2⟩

/-- A string's byte. -/
def byteAt (s : ByteArray) (i : Nat) : Int := if h : i < s.size then (s[i].toNat : Int) else 0

set_option maxRecDepth 100000 in
set_option maxHeartbeats 1000000 in
theorem cmpS (s t : ByteArray) (w : World) (hn : s.size ≤ 1048576) (hm : t.size ≤ 1048576) :
    Calls Try.prog 13 #[.string s, .string t] w fun e w' => ∃ r, e = .returned (.int .i64 r) ∧ IsCmp s.size t.size (byteAt s) (byteAt t) r ∧ ∃ q, w' = w.drewN q := by
  go_enter Try.func13, Try.ntmps13
  go_wp2
  go_loopw [5] (fun i wr => ∃ k : Nat, k ≤ s.size ∧ k ≤ t.size ∧ i = .int .i64 k ∧ (∀ j, j < k → byteAt s j = byteAt t j) ∧ ∃ q, wr = w.drewN q) (fun i _ => s.size - (intOf i).toNat)
  case atStart => exact ⟨0, Nat.zero_le _, Nat.zero_le _, rfl, fun j h => absurd h (by omega), 0, rfl⟩
  case round =>
    obtain ⟨k, hkn, hkm, rfl, he, q, hq⟩ := hrel
    have HE : Hid ((∀ j, j < k → byteAt s j = byteAt t j) ∧ wr = w.drewN q) := ⟨he, hq⟩
    clear he hq
    by_cases hlt : k < s.size
    · by_cases hlt' : k < t.size
      · have HXY : Hid (byteAt s k = s[k].toNat ∧ byteAt t k = t[k].toNat) := ⟨by simp [byteAt, hlt], by simp [byteAt, hlt']⟩
        by_cases h1 : s[k].toNat < t[k].toNat
        · go_wp2_with fail
          go_quiet (fail)
          go_wp2_with fail
          go_ret
          exact ⟨-1, rfl, .inl ⟨k, hlt, hlt', HE.out.1, .inl ⟨by rw [HXY.out.1, HXY.out.2]; omega, rfl⟩⟩, by first | exact ex1 HE.out.2 _ | exact ex2 HE.out.2 _ _⟩
        · by_cases h2 : t[k].toNat < s[k].toNat
          · go_wp2_with fail
            go_quiet (fail)
            go_wp2_with fail
            go_quiet (fail)
            go_wp2_with fail
            go_ret
            exact ⟨1, rfl, .inl ⟨k, hlt, hlt', HE.out.1, .inr ⟨by rw [HXY.out.1, HXY.out.2]; omega, rfl⟩⟩, by first | exact ex1 HE.out.2 _ | exact ex2 HE.out.2 _ _⟩
          · go_wp2_with fail
            go_quiet (fail)
            go_wp2_with fail
            go_quiet (fail)
            go_wp2_with fail
            go_roundw
            case rel => exact ⟨k + 1, by omega, by omega, by go_num, fun j hj => by
              rcases Nat.lt_succ_iff_lt_or_eq.1 hj with h | h
              · exact HE.out.1 j h
              · subst h; rw [HXY.out.1, HXY.out.2]; omega, by first | exact ex1 HE.out.2 _ | exact ex2 HE.out.2 _ _⟩
            case measure => simp [intOf]; omega
      · have hnm : t.size < s.size := by omega
        go_wp2_with fail
        go_ret
        exact ⟨1, rfl, .inr ⟨fun j h1 h2 => HE.out.1 j (by omega), .inr (.inl ⟨hnm, rfl⟩)⟩, q, HE.out.2⟩
    · by_cases hnm : s.size < t.size
      · go_wp2_with fail
        go_ret
        exact ⟨-1, rfl, .inr ⟨fun j h1 h2 => HE.out.1 j (by omega), .inl ⟨hnm, rfl⟩⟩, q, HE.out.2⟩
      · have hnm' : s.size = t.size := by omega
        go_wp2_with fail
        go_ret
        exact ⟨0, rfl, .inr ⟨fun j h1 h2 => HE.out.1 j (by omega), .inr (.inr ⟨hnm', rfl⟩)⟩, q, HE.out.2⟩

/-- The answer of the bound's own test. -/
def BOut (e : Ending) : Prop := ∃ b, e = .returned (.bool b)
theorem BOut.mk (b : Bool) : BOut (.returned (.bool b)) := ⟨b, rfl⟩

set_option maxHeartbeats 1000000 in
theorem bytes9 (a : Option Addr) (n c : Nat) (s t : ByteArray) (w : World) (hn : n ≤ maxLen) (hs : s.size ≤ maxLen) (ht : t.size ≤ maxLen) :
    Calls Try.prog 9 #[.slice a n c, .string s, .string t] w fun e w' => BOut e ∧ w' = w := by
  unfold maxLen at hn hs ht
  go_enter Try.func9, Try.ntmps9
  go_wp2
  all_goals (go_ret; exact ⟨BOut.mk _, rfl⟩)
end Go.Proofs.Qxb6615824a
