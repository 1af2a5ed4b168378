/-
  The heap's plain mathematics: the order.
-/
import Derived.Test.Qxb6614809aPlain
namespace Go.Proofs.Qxb6614809a
set_option linter.unusedVariables false

def Heap (n : Nat) (V : Nat → Ev) : Prop := ∀ j, 0 < j → j < n → (V j).lt (V ((j - 1) / 2)) = false

structure UpI (n : Nat) (V : Nat → Ev) (h : Nat) : Prop where
  a : ∀ j, 0 < j → j < n → j ≠ h → (V j).lt (V ((j - 1) / 2)) = false
  b : ∀ c, 0 < c → c < n → (c - 1) / 2 = h → 0 < h → (V c).lt (V ((h - 1) / 2)) = false

structure DnI (n : Nat) (V : Nat → Ev) (h : Nat) : Prop where
  a : ∀ j, 0 < j → j < n → (j - 1) / 2 ≠ h → (V j).lt (V ((j - 1) / 2)) = false
  b : ∀ c, 0 < c → c < n → (c - 1) / 2 = h → 0 < h → (V c).lt (V ((h - 1) / 2)) = false

section
variable {n h h' : Nat} {L : Nat → Ev} {x : Ev}

theorem UpI.done (u : UpI n (upd L h x) h) (hh : h < n) (hx : 0 < h → x.lt (L ((h - 1) / 2)) = false) : Heap n (upd L h x) := by
  intro j hj hjn
  by_cases e : j = h
  · subst e
    rw [upd_same, upd_other _ _ _ _ (by omega)]
    exact hx hj
  · exact u.a j hj hjn e

theorem UpI.move (u : UpI n (upd L h x) h) (hh : h < n) (h0 : 0 < h) (e : h' = (h - 1) / 2) (hx : x.lt (L h') = true) : UpI n (upd (upd L h (L h')) h' x) h' := by
  have hne : h' ≠ h := by omega
  have hV : ∀ j, j ≠ h → upd L h x j = L j := fun j hj => upd_other _ _ _ _ hj
  have hVh : upd L h x h = x := upd_same _ _ _
  have hW : ∀ j, j ≠ h → j ≠ h' → upd (upd L h (L h')) h' x j = L j := fun j hj hj' => by rw [upd_other _ _ _ _ hj', upd_other _ _ _ _ hj]
  have hWh : upd (upd L h (L h')) h' x h = L h' := by rw [upd_other _ _ _ _ (Ne.symm hne), upd_same]
  have hWh' : upd (upd L h (L h')) h' x h' = x := upd_same _ _ _
  have ua : ∀ j, 0 < j → j < n → j ≠ h → (upd L h x j).lt (upd L h x ((j - 1) / 2)) = false := u.a
  have ub : ∀ c, 0 < c → c < n → (c - 1) / 2 = h → (upd L h x c).lt (L h') = false := fun c h1 h2 h3 => by
    have := u.b c h1 h2 h3 h0
    rw [← e, hV h' hne] at this
    exact this
  refine ⟨?_, ?_⟩
  · intro j hj hjn hjh'
    by_cases e1 : j = h
    · subst e1
      rw [hWh, ← e, hWh']
      exact Ev.asymm hx
    · rw [hW j e1 hjh']
      have o := ua j hj hjn e1
      rw [hV j e1] at o
      by_cases e2 : (j - 1) / 2 = h
      · rw [e2, hWh]
        have := ub j hj hjn e2
        rw [hV j e1] at this
        exact this
      · rw [hV _ e2] at o
        by_cases e3 : (j - 1) / 2 = h'
        · rw [e3, hWh']
          rw [e3] at o
          exact Ev.ltn hx o
        · rw [hW _ e2 e3]
          exact o
  · intro c hc hcn hch' h0'
    have e4 : (h' - 1) / 2 ≠ h := by omega
    have e5 : (h' - 1) / 2 ≠ h' := by omega
    rw [hW _ e4 e5]
    have o := ua h' h0' (by omega) hne
    rw [hV _ hne, hV _ e4] at o
    by_cases e1 : c = h
    · subst e1
      rw [hWh]
      exact o
    · have e6 : c ≠ h' := by omega
      rw [hW c e1 e6]
      have o2 := ua c hc hcn e1
      rw [hV c e1, hch', hV h' hne] at o2
      exact Ev.ntrans o2 o

theorem DnI.done (u : DnI n (upd L h x) h) (hx : ∀ c, 0 < c → c < n → (c - 1) / 2 = h → (L c).lt x = false) : Heap n (upd L h x) := by
  intro j hj hjn
  by_cases e : (j - 1) / 2 = h
  · rw [e, upd_same, upd_other _ _ _ _ (by omega)]
    exact hx j hj hjn e
  · exact u.a j hj hjn e

theorem DnI.move (u : DnI n (upd L h x) h) (h0 : 0 < h') (hh' : h' < n) (e : (h' - 1) / 2 = h) (hx : (L h').lt x = true) (hl : ∀ c, 0 < c → c < n → (c - 1) / 2 = h → (L c).lt (L h') = false) : DnI n (upd (upd L h (L h')) h' x) h' := by
  have hne : h' ≠ h := by omega
  have hV : ∀ j, j ≠ h → upd L h x j = L j := fun j hj => upd_other _ _ _ _ hj
  have hVh : upd L h x h = x := upd_same _ _ _
  have hW : ∀ j, j ≠ h → j ≠ h' → upd (upd L h (L h')) h' x j = L j := fun j hj hj' => by rw [upd_other _ _ _ _ hj', upd_other _ _ _ _ hj]
  have hWh : upd (upd L h (L h')) h' x h = L h' := by rw [upd_other _ _ _ _ (Ne.symm hne), upd_same]
  have hWh' : upd (upd L h (L h')) h' x h' = x := upd_same _ _ _
  refine ⟨?_, ?_⟩
  · intro j hj hjn hjp
    by_cases e1 : j = h'
    · subst e1
      rw [hWh', e, hWh]
      exact Ev.asymm hx
    · by_cases e2 : j = h
      · subst e2
        have e3 : (j - 1) / 2 ≠ j := by omega
        rw [hWh, hW _ e3 hjp]
        have := u.b h' h0 hh' e hj
        rw [hV h' hne, hV _ e3] at this
        exact this
      · rw [hW j e2 e1]
        by_cases e4 : (j - 1) / 2 = h
        · rw [e4, hWh]
          exact hl j hj hjn e4
        · rw [hW _ e4 hjp]
          have := u.a j hj hjn e4
          rw [hV j e2, hV _ e4] at this
          exact this
  · intro c hc hcn hcp h0'
    have e1 : c ≠ h' := by omega
    have e2 : c ≠ h := by omega
    rw [hW c e2 e1, e, hWh]
    have := u.a c hc hcn (by omega)
    rw [hV c e2, hcp, hV h' hne] at this
    exact this

end

theorem UpI.start {n n0 m i0 : Nat} {L : Nat → Ev} {P : Nat → Int} {x : Ev} (hv : Val n0 m L P) (hn : n ≤ n0) (hi : i0 < n) (h0 : 0 < i0) (hx : x.lt (L ((i0 - 1) / 2)) = true) : UpI n (upd L i0 x) i0 := by
  have hV : ∀ j, j ≠ i0 → upd L i0 x j = L j := fun j hj => upd_other _ _ _ _ hj
  refine ⟨?_, ?_⟩
  · intro j hj hjn hne
    rw [hV j hne]
    have o := hv.hp j hj (by omega)
    by_cases e : (j - 1) / 2 = i0
    · rw [e, upd_same]
      rw [e] at o
      exact Ev.ltn hx (Ev.ntrans o (hv.hp i0 h0 (by omega)))
    · rw [hV _ e]; exact o
  · intro c hc hcn hcp _
    rw [hV c (by omega), hV _ (by omega)]
    have o := hv.hp c hc (by omega)
    rw [hcp] at o
    exact Ev.ntrans o (hv.hp i0 h0 (by omega))

theorem DnI.start {n n0 m i0 : Nat} {L : Nat → Ev} {P : Nat → Int} {x : Ev} (hv : Val n0 m L P) (hn : n ≤ n0) (hi : i0 < n) (hx : 0 < i0 → x.lt (L ((i0 - 1) / 2)) = false) : DnI n (upd L i0 x) i0 := by
  have hV : ∀ j, j ≠ i0 → upd L i0 x j = L j := fun j hj => upd_other _ _ _ _ hj
  refine ⟨?_, ?_⟩
  · intro j hj hjn hne
    rw [hV _ hne]
    by_cases e : j = i0
    · subst e
      rw [upd_same]
      exact hx hj
    · rw [hV j e]; exact hv.hp j hj (by omega)
  · intro c hc hcn hcp h0
    rw [hV c (by omega), hV _ (by omega)]
    have o := hv.hp c hc (by omega)
    rw [hcp] at o
    exact Ev.ntrans o (hv.hp i0 h0 (by omega))

/-- the last value has taken the place of the one that goes -/
theorem St.start {n m i0 q : Nat} {L : Nat → Ev} {P : Nat → Int} (hv : Val (n + 1) m L P) (hi : i0 < n) (hk : (L i0).k = 2) (hq : (L i0).r + 1 = (q : Int)) : St (n + 1) i0 m n L (upd L i0 (L n)) (upd P q (-1)) i0 := by
  have hV : ∀ j, j ≠ i0 → upd L i0 (L n) j = L j := fun j hj => upd_other _ _ _ _ hj
  have hVi : upd L i0 (L n) i0 = L n := upd_same _ _ _
  obtain ⟨z1, z2, z3⟩ := hv.e i0 (by omega) hk
  have z3' : P q = (i0 : Int) := by rw [← z3]; congr 1; omega
  refine ⟨?_, ?_, ?_⟩
  · refine ⟨fun j => if j = i0 then n else j, ?_, ?_, ?_⟩
    · intro j hj
      by_cases e : j = i0
      · simp only [if_pos e]; subst e; exact ⟨by omega, by omega, hVi⟩
      · simp only [if_neg e]; exact ⟨by omega, e, hV j e⟩
    · intro y hy hy'
      by_cases e : y = n
      · exact ⟨i0, hi, by simp [e]⟩
      · exact ⟨y, by omega, by simp [hy']⟩
    · intro a b ha hb hab
      dsimp only at hab
      by_cases a1 : a = i0
      · by_cases b1 : b = i0
        · omega
        · rw [if_pos a1, if_neg b1] at hab; omega
      · by_cases b1 : b = i0
        · rw [if_neg a1, if_pos b1] at hab; omega
        · rw [if_neg a1, if_neg b1] at hab; omega
  · intro j hj hne hkj
    rw [hV j hne] at hkj ⊢
    obtain ⟨y1, y2, y3⟩ := hv.e j (by omega) hkj
    rw [upd_other]
    · exact y3
    · intro e; rw [e, z3'] at y3; omega
  · intro k hk1 hk2 hk3
    by_cases e : k = q
    · subst e; exact upd_same _ _ _
    · rw [upd_other _ _ _ _ e]
      rcases hv.f k hk1 hk2 with h | ⟨f1, f2, f3, f4⟩
      · exact h
      · exfalso
        have ne0 : (P k).toNat ≠ i0 := fun e1 => by rw [e1] at f4; omega
        by_cases e2 : (P k).toNat = n
        · have := hk3 i0 hi (by rw [hVi, ← e2]; exact f3)
          rw [hVi, ← e2] at this
          omega
        · have := hk3 (P k).toNat (by omega) (by rw [hV _ ne0]; exact f3)
          rw [hV _ ne0] at this
          omega

/-- the last value itself goes -/
theorem St.startLast {n m q : Nat} {L : Nat → Ev} {P : Nat → Int} (hv : Val (n + 1) m L P) (hk : (L n).k = 2) (hq : (L n).r + 1 = (q : Int)) : St (n + 1) n m n L L (upd P q (-1)) n := by
  obtain ⟨z1, z2, z3⟩ := hv.e n (by omega) hk
  have z3' : P q = (n : Int) := by rw [← z3]; congr 1; omega
  refine ⟨⟨fun j => j, fun j hj => ⟨by show j < n + 1; omega, by show j ≠ n; omega, rfl⟩, fun y hy hy' => ⟨y, by omega, rfl⟩, fun a b _ _ h => h⟩, ?_, ?_⟩
  · intro j hj hne hkj
    obtain ⟨y1, y2, y3⟩ := hv.e j (by omega) hkj
    rw [upd_other]
    · exact y3
    · intro e; rw [e, z3'] at y3; omega
  · intro k hk1 hk2 hk3
    by_cases e : k = q
    · subst e; exact upd_same _ _ _
    · rw [upd_other _ _ _ _ e]
      rcases hv.f k hk1 hk2 with h | ⟨f1, f2, f3, f4⟩
      · exact h
      · exfalso
        have ne0 : (P k).toNat ≠ n := fun e1 => by rw [e1] at f4; omega
        have := hk3 (P k).toNat (by omega) f3
        omega

/-- what the queue is behind the removal of the event at i0 -/
structure Gone (n m i0 q : Nat) (L : Nat → Ev) (P : Nat → Int) (L' : Nat → Ev) (P' : Nat → Int) : Prop where
  heap : Heap n L'
  σ : ∃ σ : Nat → Nat, (∀ j, j < n → σ j < n + 1 ∧ σ j ≠ i0 ∧ L' j = L (σ j)) ∧ (∀ a b, a < n → b < n → σ a = σ b → a = b) ∧
    ∀ k : Nat, 1 ≤ k → k < m → ((k = q ∨ P k = -1) → P' k = -1) ∧ (k ≠ q → P k ≠ -1 → 0 ≤ P' k ∧ P' k < (n : Int) ∧ (L' (P' k).toNat).k = 2 ∧ (L' (P' k).toNat).r = (k : Int) - 1 ∧ σ (P' k).toNat = (P k).toNat)

theorem St.gone {n m i0 q : Nat} {L L' : Nat → Ev} {P P' : Nat → Int} (hv : Val (n + 1) m L P) (s : St (n + 1) i0 m n L L' P' n) (hh : Heap n L') (hi : i0 < n + 1) (hk : (L i0).k = 2) (hq : (L i0).r + 1 = (q : Int)) : Gone n m i0 q L P L' P' := by
  refine ⟨hh, ?_⟩
  obtain ⟨σ, h1, h2, h3⟩ := s.sg
  refine ⟨σ, h1, h3, ?_⟩
  intro k hk1 hk2
  obtain ⟨z1, z2, z3⟩ := hv.e i0 hi hk
  have z3' : P q = (i0 : Int) := by rw [← z3]; congr 1; omega
  refine ⟨?_, ?_⟩
  · intro hc
    refine s.p2 k hk1 hk2 ?_
    intro j hj hkj hr
    obtain ⟨a1, a2, a3⟩ := h1 j hj
    rw [a3] at hkj hr
    obtain ⟨y1, y2, y3⟩ := hv.e _ a1 hkj
    rw [hr] at y3
    rcases hc with hc | hc
    · subst hc
      have : P k = ((σ j : Nat) : Int) := by rw [← y3]; congr 1
      omega
    · have : P k = ((σ j : Nat) : Int) := by rw [← y3]; congr 1
      omega
  · intro hkq hkm
    rcases hv.f k hk1 hk2 with h | ⟨f1, f2, f3, f4⟩
    · exact absurd h hkm
    · have ne0 : (P k).toNat ≠ i0 := fun e1 => by rw [e1] at f4; omega
      obtain ⟨j, hj, hj'⟩ := h2 (P k).toNat (by omega) ne0
      obtain ⟨a1, a2, a3⟩ := h1 j hj
      rw [hj'] at a3
      have hp := s.p1 j hj (by omega) (by rw [a3]; exact f3)
      have e5 : ((L' j).r + 1).toNat = k := by rw [a3]; omega
      rw [e5] at hp
      refine ⟨by omega, by omega, ?_⟩
      have e6 : (P' k).toNat = j := by omega
      rw [e6]
      exact ⟨by rw [a3]; exact f3, by rw [a3]; exact f4, hj'⟩

end Go.Proofs.Qxb6614809a
