/-
  The heap's plain mathematics: no Go in sight.
-/
import Derived.Test.Qxb6614809aMem
namespace Go.Proofs.Qxb6614809a
set_option linter.unusedVariables false

theorem Ev.lt_iff (x y : Ev) : x.lt y = true ↔ (x.t < y.t ∨ (x.t = y.t ∧ x.s < y.s)) := by simp [Ev.lt, beforeB]
theorem Ev.nlt_iff (x y : Ev) : x.lt y = false ↔ ¬ (x.t < y.t ∨ (x.t = y.t ∧ x.s < y.s)) := by
  rw [← Ev.lt_iff]; simp
theorem Ev.asymm {x y : Ev} (h : x.lt y = true) : y.lt x = false := by rw [Ev.nlt_iff]; rw [Ev.lt_iff] at h; omega
theorem Ev.ntrans {x y z : Ev} (h : x.lt y = false) (h' : y.lt z = false) : x.lt z = false := by rw [Ev.nlt_iff] at *; omega
theorem Ev.ltn {x y z : Ev} (h : x.lt y = true) (h' : z.lt y = false) : z.lt x = false := by rw [Ev.nlt_iff] at *; rw [Ev.lt_iff] at h; omega

/-- a valid queue -/
structure Val (n m : Nat) (L : Nat → Ev) (P : Nat → Int) : Prop where
  hp : ∀ j, 0 < j → j < n → (L j).lt (L ((j - 1) / 2)) = false
  ds : ∀ i j, i < n → j < n → (L i).s = (L j).s → i = j
  e : ∀ j, j < n → (L j).k = 2 → 0 ≤ (L j).r ∧ (L j).r + 1 < (m : Int) ∧ P ((L j).r + 1).toNat = (j : Int)
  f : ∀ k, 1 ≤ k → k < m → P k = -1 ∨ (0 ≤ P k ∧ P k < (n : Int) ∧ (L (P k).toNat).k = 2 ∧ (L (P k).toNat).r = (k : Int) - 1)

/-- what stands while the value at place h is on its way: 'V' the items, 'P' the places; all items but the one at i0 -/
structure St (n0 i0 m n' : Nat) (L0 V : Nat → Ev) (P : Nat → Int) (h : Nat) : Prop where
  sg : ∃ σ : Nat → Nat, (∀ j, j < n' → σ j < n0 ∧ σ j ≠ i0 ∧ V j = L0 (σ j)) ∧ (∀ y, y < n0 → y ≠ i0 → ∃ j, j < n' ∧ σ j = y) ∧ (∀ a b, a < n' → b < n' → σ a = σ b → a = b)
  p1 : ∀ j, j < n' → j ≠ h → (V j).k = 2 → P ((V j).r + 1).toNat = (j : Int)
  p2 : ∀ k : Nat, 1 ≤ k → k < m → (∀ j, j < n' → (V j).k = 2 → (V j).r + 1 ≠ (k : Int)) → P k = -1

theorem St.key {n0 i0 m n' h : Nat} {L0 V : Nat → Ev} {P0 P : Nat → Int} (hv : Val n0 m L0 P0) (s : St n0 i0 m n' L0 V P h) (hm : 0 < m) {j : Nat} (hj : j < n') :
    ∃ q : Nat, (V j).key + 1 = (q : Int) ∧ q < m ∧ ((V j).k = 2 → q = ((V j).r + 1).toNat ∧ 1 ≤ q ∧ (V j).r + 1 = (q : Int)) ∧ ((V j).k ≠ 2 → q = 0) := by
  obtain ⟨σ, h1, h2, h3⟩ := s.sg
  obtain ⟨a, b, c⟩ := h1 j hj
  rw [c]
  by_cases hk : (L0 (σ j)).k = 2
  · obtain ⟨e1, e2, e3⟩ := hv.e _ a hk
    refine ⟨((L0 (σ j)).r + 1).toNat, ?_, by omega, fun _ => ⟨rfl, by omega, by omega⟩, fun h => absurd hk h⟩
    simp only [Ev.key, keyI, hk, if_true]; omega
  · refine ⟨0, ?_, hm, fun h => absurd h hk, fun _ => rfl⟩
    simp [Ev.key, keyI, hk]

theorem St.inj {n0 i0 m n' h : Nat} {L0 V : Nat → Ev} {P0 P : Nat → Int} (hv : Val n0 m L0 P0) (s : St n0 i0 m n' L0 V P h) {a b : Nat} (ha : a < n') (hb : b < n') (ka : (V a).k = 2) (kb : (V b).k = 2) (hr : (V a).r = (V b).r) : a = b := by
  obtain ⟨σ, h1, h2, h3⟩ := s.sg
  obtain ⟨a1, a2, a3⟩ := h1 a ha
  obtain ⟨b1, b2, b3⟩ := h1 b hb
  rw [a3] at ka hr; rw [b3] at kb hr
  have e1 := (hv.e _ a1 ka).2.2
  have e2 := (hv.e _ b1 kb).2.2
  rw [hr] at e1
  exact h3 a b ha hb (by omega)

/-- the value at h' is set to h, the one on its way goes on to h' -/
theorem St.move {n0 i0 m n' h h' q : Nat} {L0 L : Nat → Ev} {P0 P : Nat → Int} {x : Ev} (hv : Val n0 m L0 P0) (s : St n0 i0 m n' L0 (upd L h x) P h) (hm : 0 < m) (hh : h < n') (hh' : h' < n') (hne : h' ≠ h) (hq : (L h').key + 1 = (q : Int)) :
    St n0 i0 m n' L0 (upd (upd L h (L h')) h' x) (upd P q (h : Int)) h' := by
  have hV : ∀ j, j ≠ h → upd L h x j = L j := fun j hj => upd_other _ _ _ _ hj
  have hVh : upd L h x h = x := upd_same _ _ _
  have hW : ∀ j, j ≠ h → j ≠ h' → upd (upd L h (L h')) h' x j = L j := fun j hj hj' => by rw [upd_other _ _ _ _ hj', upd_other _ _ _ _ hj]
  have hWh : upd (upd L h (L h')) h' x h = L h' := by rw [upd_other _ _ _ _ (Ne.symm hne), upd_same]
  have hWh' : upd (upd L h (L h')) h' x h' = x := upd_same _ _ _
  obtain ⟨q', hq1, hq2, hq3, hq4⟩ := s.key hv hm hh'
  rw [hV h' hne] at hq1 hq3 hq4
  have hqq : q' = q := by omega
  subst hqq
  refine ⟨?_, ?_, ?_⟩
  · obtain ⟨σ, h1, h2, h3⟩ := s.sg
    refine ⟨fun j => if j = h then σ h' else if j = h' then σ h else σ j, ?_, ?_, ?_⟩
    · intro j hj
      by_cases e1 : j = h
      · subst e1
        simp only [if_true]
        rw [hWh, ← hV h' hne]
        exact h1 h' hh'
      · by_cases e2 : j = h'
        · subst e2
          simp only [if_neg e1, if_true]
          rw [hWh']
          have := h1 h hh
          rw [hVh] at this
          exact this
        · simp only [if_neg e1, if_neg e2]
          rw [hW j e1 e2, ← hV j e1]
          exact h1 j hj
    · intro y hy hy'
      obtain ⟨j, hj, hj'⟩ := h2 y hy hy'
      by_cases e1 : j = h
      · subst e1; exact ⟨h', hh', by simp only [if_neg hne, if_true]; exact hj'⟩
      · by_cases e2 : j = h'
        · subst e2; exact ⟨h, hh, by simp only [if_true]; exact hj'⟩
        · exact ⟨j, hj, by simp only [if_neg e1, if_neg e2]; exact hj'⟩
    · intro a b ha hb hab
      dsimp only at hab
      by_cases a1 : a = h
      · by_cases b1 : b = h
        · omega
        · by_cases b2 : b = h'
          · rw [if_pos a1, if_neg b1, if_pos b2] at hab
            have := h3 _ _ hh' hh hab; omega
          · rw [if_pos a1, if_neg b1, if_neg b2] at hab
            have := h3 _ _ hh' hb hab; omega
      · by_cases a2 : a = h'
        · by_cases b1 : b = h
          · rw [if_neg a1, if_pos a2, if_pos b1] at hab
            have := h3 _ _ hh hh' hab; omega
          · by_cases b2 : b = h'
            · omega
            · rw [if_neg a1, if_pos a2, if_neg b1, if_neg b2] at hab
              have := h3 _ _ hh hb hab; omega
        · by_cases b1 : b = h
          · rw [if_neg a1, if_neg a2, if_pos b1] at hab
            have := h3 _ _ ha hh' hab; omega
          · by_cases b2 : b = h'
            · rw [if_neg a1, if_neg a2, if_neg b1, if_pos b2] at hab
              have := h3 _ _ ha hh hab; omega
            · rw [if_neg a1, if_neg a2, if_neg b1, if_neg b2] at hab
              exact h3 _ _ ha hb hab
  · intro j hj hjh hk
    by_cases e1 : j = h
    · subst e1
      rw [hWh] at hk ⊢
      rw [(hq3 hk).1]
      exact upd_same _ _ _
    · rw [hW j e1 hjh] at hk ⊢
      have e3 := s.p1 j hj e1 (by rw [hV j e1]; exact hk)
      rw [hV j e1] at e3
      rw [upd_other]
      · exact e3
      · intro e4
        obtain ⟨q2, _, _, k3, k4⟩ := s.key hv hm hj
        rw [hV j e1] at k3
        obtain ⟨k5, k6, k7⟩ := k3 hk
        by_cases hk' : (L h').k = 2
        · obtain ⟨k8, k9, k10⟩ := hq3 hk'
          have := s.inj hv hj hh' (by rw [hV j e1]; exact hk) (by rw [hV h' hne]; exact hk') (by rw [hV j e1, hV h' hne]; omega)
          omega
        · have := hq4 hk'; omega
  · intro k hk1 hk2 hk3
    have hold : ∀ j, j < n' → (upd L h x j).k = 2 → (upd L h x j).r + 1 ≠ (k : Int) := by
      intro j hj hk
      by_cases e1 : j = h
      · subst e1
        rw [hVh] at hk ⊢
        have := hk3 h' hh' (by rw [hWh']; exact hk)
        rw [hWh'] at this; exact this
      · by_cases e2 : j = h'
        · subst e2
          rw [hV j e1] at hk ⊢
          have := hk3 h hh (by rw [hWh]; exact hk)
          rw [hWh] at this; exact this
        · rw [hV j e1] at hk ⊢
          have := hk3 j hj (by rw [hW j e1 e2]; exact hk)
          rw [hW j e1 e2] at this; exact this
    rw [upd_other]
    · exact s.p2 k hk1 hk2 hold
    · intro e
      by_cases hk' : (L h').k = 2
      · obtain ⟨k8, k9, k10⟩ := hq3 hk'
        have := hold h' hh' (by rw [hV h' hne]; exact hk')
        rw [hV h' hne] at this
        omega
      · have := hq4 hk'; omega

/-- the last step: the value is set where it belongs -/
theorem St.done {n0 i0 m n' h q : Nat} {L0 L : Nat → Ev} {P0 P : Nat → Int} {x : Ev} (hv : Val n0 m L0 P0) (s : St n0 i0 m n' L0 (upd L h x) P h) (hm : 0 < m) (hh : h < n') (hq : x.key + 1 = (q : Int)) :
    St n0 i0 m n' L0 (upd L h x) (upd P q (h : Int)) n' := by
  obtain ⟨q', hq1, hq2, hq3, hq4⟩ := s.key hv hm hh
  rw [upd_same] at hq1 hq3 hq4
  have hqq : q' = q := by omega
  subst hqq
  refine ⟨s.sg, ?_, ?_⟩
  · intro j hj hjn hk
    by_cases e1 : j = h
    · subst e1
      rw [upd_same] at hk ⊢
      rw [(hq3 hk).1]
      exact upd_same _ _ _
    · rw [upd_other]
      · exact s.p1 j hj e1 hk
      · intro e4
        obtain ⟨q2, _, _, k3, k4⟩ := s.key hv hm hj
        obtain ⟨k5, k6, k7⟩ := k3 hk
        by_cases hk' : x.k = 2
        · obtain ⟨k8, k9, k10⟩ := hq3 hk'
          have := s.inj hv hj hh hk (by rw [upd_same]; exact hk') (by rw [upd_same]; omega)
          omega
        · have := hq4 hk'; omega
  · intro k hk1 hk2 hk3
    rw [upd_other]
    · exact s.p2 k hk1 hk2 hk3
    · intro e
      by_cases hk' : x.k = 2
      · obtain ⟨k8, k9, k10⟩ := hq3 hk'
        have := hk3 h hh (by rw [upd_same]; exact hk')
        rw [upd_same] at this
        omega
      · have := hq4 hk'; omega

end Go.Proofs.Qxb6614809a
