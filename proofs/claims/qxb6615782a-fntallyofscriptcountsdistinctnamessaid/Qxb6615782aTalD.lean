/-
  FnTallyOfScriptCountsDistinctNames: the names; the state of the loop.
-/
import Derived.Test.Qxb6615782aTalC
namespace Go.Proofs.Qxb6615782a.tal
open Go.RowKit Go.Maps
set_option linter.unusedVariables false

/-- The names that came in. -/
def Strs (w : World) (a : Option Addr) (n : Nat) (N : Nat → ByteArray) : Prop :=
  (n = 0 ∨ ∃ b off, a = some ⟨b, off, none⟩ ∧ b < w.heap.size ∧ ∀ i, i < n → w.cell? ⟨b, off + i, none⟩ = some (.string (N i))) ∧ ∀ i, i < n → (N i).size ≤ maxLen

theorem Strs.at {w : World} {a : Option Addr} {n : Nat} {N : Nat → ByteArray} (h : Strs w a n N) {i : Nat} (hi : i < n) : ∃ b off, a = some ⟨b, off, none⟩ ∧ b < w.heap.size ∧ ∀ i, i < n → w.cell? ⟨b, off + i, none⟩ = some (.string (N i)) := by
  rcases h.1 with h | h
  · omega
  · exact h

theorem str_eq (a b : ByteArray) : (a.toList == b.toList) = decide (a = b) := by
  rw [ByteArray.toList_eq, ByteArray.toList_eq]
  by_cases e : a = b
  · subst e; simp
  · have : a.data ≠ b.data := fun h => e (by cases a; cases b; simpa using h)
    simp [e, this]

/-- Is t the own name or one of the first k? -/
def met (own : ByteArray) (N : Nat → ByteArray) (k : Nat) (t : ByteArray) : Bool := decide (t = own) || (List.range k).any (fun j => decide (N j = t))
theorem met_succ (own : ByteArray) (N : Nat → ByteArray) (k : Nat) (t : ByteArray) : met own N (k + 1) t = (met own N k t || decide (t = N k)) := by
  unfold met
  rw [List.range_succ, List.any_append, Bool.or_assoc]
  congr 2
  simp [eq_comm]
theorem any_succ (N : Nat → ByteArray) (k : Nat) (t : ByteArray) : (List.range (k + 1)).any (fun j => decide (N j = t)) = ((List.range k).any (fun j => decide (N j = t)) || decide (N k = t)) := by
  rw [List.range_succ, List.any_append]; simp

/-- The state at the head of round k. -/
def Inv (w wr : World) (c : Nat) (own : ByteArray) (N : Nat → ByteArray) (k : Nat) (z : Int) : Prop :=
  ∃ p m D, Cnt wr c p m (k + 1) D ∧ z = (Maps.size D : Int) ∧ (∀ t, has D (kl t) = met own N k t) ∧ w.heap.size ≤ c ∧ Below w.heap.size w wr

theorem Cnt.drewN {w : World} {c p m n : Nat} {D : DataW Unit} (h : Cnt w c p m n D) (q : Nat) : Cnt (w.drewN q) c p m n D :=
  ⟨h.cl, h.cp, h.cm, h.c1, h.c2, h.f1, h.f2, h.hp, h.hm, h.hk⟩
theorem Inv.drewN {w wr : World} {c : Nat} {own : ByteArray} {N : Nat → ByteArray} {k : Nat} {z : Int} (h : Inv w wr c own N k z) (q : Nat) : Inv w (wr.drewN q) c own N k z := by
  obtain ⟨p, m, D, h1, h2, h3, h4, h5⟩ := h
  exact ⟨p, m, D, h1.drewN q, h2, h3, h4, ⟨h5.os, h5.tape, h5.output, h5.size, h5.block⟩⟩
theorem Inv.bound {w wr : World} {c : Nat} {own : ByteArray} {N : Nat → ByteArray} {k : Nat} {z : Int} (h : Inv w wr c own N k z) : 0 ≤ z ∧ z ≤ k + 1 := by
  obtain ⟨p, m, D, h1, h2, h3, h4, h5⟩ := h
  have := h1.hm.size_le
  omega

theorem Inv.len {w wr : World} {c : Nat} {own : ByteArray} {N : Nat → ByteArray} {k : Nat} {z : Int} (h : Inv w wr c own N k z) :
    Calls Try.prog 18 #[.pointer (some ⟨c, 0, none⟩)] wr fun e w' => e = .returned (.int .i64 z) ∧ w' = wr := by
  obtain ⟨p, m, D, h1, h2, h3, h4, h5⟩ := h
  rw [h2]
  exact len18 c p m _ D wr h1

theorem Inv.tally {w wr : World} {c : Nat} {own : ByteArray} {N : Nat → ByteArray} {k : Nat} {z : Int} (h : Inv w wr c own N k z) (hk : k ≤ 65536) (hs : (N k).size ≤ maxLen) :
    Calls Try.prog 16 #[.pointer (some ⟨c, 0, none⟩), .string (N k)] wr fun e w' => ∃ g : Nat, e = .returned (.pointer (some ⟨g, 0, none⟩)) ∧ w'.cell? ⟨g, 0, none⟩ = some (.string (N k)) ∧ Inv w w' c own N (k + 1) (if met own N k (N k) then z else z + 1) := by
  obtain ⟨p, m, D, h1, h2, h3, h4, h5⟩ := h
  refine (of16 c p m (k + 1) D (N k) hs wr h1 (by unfold maxLen; omega)).mono ?_
  rintro e w' ⟨g, p', m', D', rfl, hg, hC, hH, hS, hB⟩
  refine ⟨g, rfl, hg, p', m', D', hC, ?_, fun t => by rw [hH, h3, met_succ], h4, h5.trans (hB _ h4 h5.size)⟩
  rw [hS, ← h3 (N k), h2]
  split <;> simp

theorem Inv.start (own : ByteArray) (N : Nat → ByteArray) (hs : own.size ≤ maxLen) (w : World) :
    Calls Try.prog 15 #[.string own] w fun e w' => ∃ c, e = .returned (.pointer (some ⟨c, 0, none⟩)) ∧ Inv w w' c own N 0 1 := by
  refine (new15 own hs w).mono ?_
  rintro e w' ⟨c, p, m, D, rfl, hC, hH, hS, hc, hB⟩
  exact ⟨c, rfl, p, m, D, hC, by rw [hS]; rfl, fun t => by rw [hH]; simp [met], hc, hB⟩

/-- The bound's answer: false; or true, and the bound holds. -/
def BOut (n : Nat) (N : Nat → ByteArray) (e : Ending) : Prop := e = .returned (.bool false) ∨ (e = .returned (.bool true) ∧ ∀ i, i < n → (N i).size ≤ 1048576)
theorem BOut.no (n : Nat) (N : Nat → ByteArray) : BOut n N (.returned (.bool false)) := .inl rfl

set_option maxRecDepth 100000 in
set_option maxHeartbeats 1000000 in
theorem bytes14 (own : ByteArray) (a : Option Addr) (n cap : Nat) (N : Nat → ByteArray) (w : World) (ho : own.size ≤ maxLen) (hn : n ≤ maxLen) (h : Strs w a n N) :
    Calls Try.prog 14 #[.string own, .slice a n cap] w fun e w' => BOut n N e ∧ w' = w := by
  have HS : Hid (Strs w a n N) := h
  clear h
  unfold maxLen at ho hn
  go_enter Try.func14, Try.ntmps14
  go_wp2
  all_goals first | (go_ret; exact ⟨BOut.no _ _, rfl⟩) | skip
  go_loop [5, 6] (fun t i => ∃ k : Nat, k ≤ n ∧ i = .int .i64 k ∧ (∃ z : Int, t = .int .i64 z ∧ 0 ≤ z ∧ z ≤ 1048576) ∧ ∀ j, j < k → (N j).size ≤ 1048576) (fun _ i => n - (intOf i).toNat)
  case atStart => exact ⟨0, Nat.zero_le _, rfl, ⟨_, rfl, by omega, by omega⟩, fun j hj => absurd hj (by omega)⟩
  case round =>
    obtain ⟨k, hk, rfl, ⟨z, rfl, hz0, hz1⟩, hN⟩ := hrel
    have HN : Hid (∀ j, j < k → (N j).size ≤ 1048576) := hN
    clear hN
    by_cases hlt : k < n
    · obtain ⟨b, off, rfl, hl, hc⟩ := HS.out.at hlt
      have hck := hc k hlt
      have hsz := HS.out.2 k hlt
      unfold maxLen at hsz
      clear hc
      obtain ⟨s, hs⟩ : ∃ s, N k = s := ⟨_, rfl⟩
      have HK : Hid (N k = s) := hs
      rw [hs] at hck hsz
      clear hs
      go_wp2
      all_goals first | (go_ret; exact ⟨BOut.no _ _, rfl⟩) | skip
      go_round
      case rel => exact ⟨k + 1, by omega, by go_num, ⟨_, rfl, by omega, by omega⟩, fun j hj => by
        rcases Nat.lt_succ_iff_lt_or_eq.1 hj with h | h
        · exact HN.out j h
        · subst h; rw [HK.out]; omega⟩
      case measure => simp [intOf]; omega
    · go_wp2
      go_ret
      exact ⟨.inr ⟨rfl, fun i hi => HN.out i (by omega)⟩, rfl⟩
end Go.Proofs.Qxb6615782a.tal
