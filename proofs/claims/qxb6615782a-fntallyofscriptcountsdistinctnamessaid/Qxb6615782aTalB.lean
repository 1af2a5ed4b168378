/-
  FnTallyOfScriptCountsDistinctNames: tallyOf, newCounts.
-/
import Derived.Test.Qxb6615782aTalA
namespace Go.Proofs.Qxb6615782a.tal
open Go.RowKit Go.Maps
set_option linter.unusedVariables false

theorem zero37 (w : World) : (zeroValue 37).run Try.prog w = .ok (.pointer none) w := by
  simp [go_sem]

/-- What tallyOf leaves behind. -/
def Post (c n : Nat) (D : DataW Unit) (s : ByteArray) (w : World) (e : Ending) (w' : World) : Prop :=
  ∃ (g p' m' : Nat) (D' : DataW Unit), e = .returned (.pointer (some ⟨g, 0, none⟩)) ∧ w'.cell? ⟨g, 0, none⟩ = some (.string s) ∧ Cnt w' c p' m' (n + 1) D' ∧
    (∀ t, has D' (kl t) = (has D (kl t) || decide (t = s))) ∧ Maps.size D' = (if has D (kl s) then Maps.size D else Maps.size D + 1) ∧ ∀ B, B ≤ c → B ≤ w.heap.size → Below B w w'

theorem iskl (s : ByteArray) : WideAt.IsKeyLit (kl s) := by trivial

set_option maxRecDepth 100000 in
set_option maxHeartbeats 1000000 in
theorem of_hit (c p m n : Nat) (D : DataW Unit) (s : ByteArray) (hs : s.size ≤ maxLen) (w : World) (h : Cnt w c p m n D) (hh : has D (kl s) = true) :
    Calls Try.prog 22 #[.pointer (some ⟨c, 0, none⟩), .string s] w (Post c n D s w) := by
  have hc := cell_map h.hp
  obtain ⟨v, ps, hrun, hv⟩ := h.hm.look_ok law Try.underlying78 (zero37 w) (rfl : RT (.pointer none) = some (.nil, [])) (key_of hs)
  rw [hh] at hrun
  obtain ⟨g, hg, hgc, hne⟩ := h.hk s hh
  rw [hg] at hv
  obtain rfl := RT_inv hv
  have hP : Post c n D s w (.returned (.pointer (some ⟨g, 0, none⟩))) w := by
    refine ⟨g, p, m, D, rfl, hgc, ⟨h.cl, h.cp, h.cm, h.c1, h.c2, h.f1, h.f2, h.hp, h.hm.mono (by omega), h.hk⟩, fun t => ?_, by rw [hh]; rfl, fun B _ _ => Below.refl _ _⟩
    by_cases e : t = s
    · subst e; rw [hh]; rfl
    · simp [e]
  have HL : Hid (Cnt w c p m n D ∧ Post c n D s w (.returned (.pointer (some ⟨g, 0, none⟩))) w) := ⟨h, hP⟩
  clear h hh hg hgc hv hP
  go_enter_defers Try.func22, Try.ntmps22
  go_wp2_with fail
  refine (load23 c p m w HL.out.1.c1 HL.out.1.hp).mono ?_
  rintro e w' ⟨rfl, hw⟩
  rw [hw]; clear hw
  go_wp2_with fail
  refine ⟨_, results_tmp rfl _ _ _, ?_⟩
  change Post c n D s w (.returned (.pointer (some ⟨g, 0, none⟩))) w
  exact HL.out.2

set_option maxRecDepth 100000 in
set_option maxHeartbeats 1000000 in
theorem of_miss (c p m n : Nat) (D : DataW Unit) (s : ByteArray) (hs : s.size ≤ maxLen) (w : World) (h : Cnt w c p m n D) (hh : has D (kl s) = false) (hn : n < maxLen) :
    Calls Try.prog 22 #[.pointer (some ⟨c, 0, none⟩), .string s] w (Post c n D s w) := by
  have hc := cell_map h.hp
  obtain ⟨v, ps, hrun, hv⟩ := h.hm.look_ok law Try.underlying78 (zero37 w) (rfl : RT (.pointer none) = some (.nil, [])) (key_of hs)
  rw [hh] at hrun
  clear hv
  obtain ⟨w1, hw1⟩ : ∃ w1, w.setCell ⟨c, 2, none⟩ (.int .i32 1) = w1 := ⟨_, rfl⟩
  have hm1 : w1.ownsMap Try.prog 9 RT m n D := by rw [← hw1]; exact h.hm.setCell (Ne.symm h.cm) _
  obtain ⟨v', ps', hrun', hv'⟩ := hm1.look_ok law Try.underlying78 (zero37 w1) (rfl : RT (.pointer none) = some (.nil, [])) (key_of hs)
  rw [hh] at hrun'
  clear hv'
  have hp1 : w1.heap[p]? = some (.cells #[.map (some m)] 78) := by rw [← hw1, Below.heap_setCell _ _ _ _ (by simpa using Ne.symm h.cp)]; exact h.hp
  have c11 : w1.cell? ⟨c, 1, none⟩ = some (.pointer (some ⟨p, 0, none⟩)) := by rw [← hw1, World.cell?_setCell_other _ _ _ _ (by simp)]; exact h.c1
  have c21 : w1.cell? ⟨c, 2, none⟩ = some (.int .i32 1) := by rw [← hw1]; exact World.cell?_setCell_same _ _ _ h.c2
  have hc1 := cell_map hp1
  have htidy := h.hm.tidy law
  obtain ⟨es, clock, hb, F, hsz, hD⟩ := hm1
  -- the worlds behind the clone, the two new blocks and the update
  obtain ⟨w2, hw2⟩ : ∃ w2, w1.alloc (.map es clock) = w2 := ⟨_, rfl⟩
  have hm2 : w2.ownsMap Try.prog 9 RT w1.heap.size n D := by rw [← hw2]; exact ⟨es, clock, heap_alloc_new w1 _, F, hsz, hD⟩
  have hsz2 : w2.heap.size = w1.heap.size + 1 := by rw [← hw2]; simp
  have hsz1 : w1.heap.size = w.heap.size := by rw [← hw1]; simp
  obtain ⟨w5, hup, hm5, hg5⟩ := ((hm2.alloc (.cells #[.map (some w1.heap.size)] 78)).alloc (.cells #[.string s, .int .u64 0, .int .u64 0] 77)).update law Try.underlying78 hn (key_of hs) (rfl : RT (.pointer (some ⟨w2.heap.size + 1, 0, none⟩)) = some (.lit (.int .u64 ((w2.heap.size + 1 : Nat) : Int)), []))
  have cl := h.cl
  have old : ∀ k, k < w1.heap.size → w5.heap[k]? = w1.heap[k]? := fun k hk => by
    rw [hg5.block k (by simp; omega) (by intro e; injection e with e; omega), Below.heap_alloc _ _ _ (by simp; omega), Below.heap_alloc _ _ _ (by omega), ← hw2, Below.heap_alloc _ _ _ hk]
  have hp5 : w5.heap[w2.heap.size]? = some (.cells #[.map (some w1.heap.size)] 78) := by
    rw [hg5.block _ (by simp <;> omega) (by intro e; injection e with e; omega), Below.heap_alloc _ _ _ (by simp)]
    exact heap_alloc_new w2 _
  have hg5' : w5.heap[w2.heap.size + 1]? = some (.cells #[.string s, .int .u64 0, .int .u64 0] 77) := by
    rw [hg5.block _ (by simp <;> omega) (by intro e; injection e with e; omega)]
    have := heap_alloc_new (w2.alloc (.cells #[.map (some w1.heap.size)] 78)) (.cells #[.string s, .int .u64 0, .int .u64 0] 77)
    simpa only [World.size_alloc] using this
  have c15 : w5.cell? ⟨c, 1, none⟩ = some (.pointer (some ⟨p, 0, none⟩)) := (World.cell?_of_block (a := ⟨c, 1, none⟩) (old c (by omega))).trans c11
  have c25 : w5.cell? ⟨c, 2, none⟩ = some (.int .i32 1) := (World.cell?_of_block (a := ⟨c, 2, none⟩) (old c (by omega))).trans c21
  have f15 : w5.frozen? ⟨c, 1, none⟩ = false := by
    rw [World.frozen?_of_block (a := ⟨c, 1, none⟩) (old c (by omega)), ← hw1, World.frozen?_setCell]; exact h.f1
  have f25 : w5.frozen? ⟨c, 2, none⟩ = false := by
    rw [World.frozen?_of_block (a := ⟨c, 2, none⟩) (old c (by omega)), ← hw1, World.frozen?_setCell]; exact h.f2
  have hP : Post c n D s w (.returned (.pointer (some ⟨w2.heap.size + 1, 0, none⟩))) ((w5.setCell ⟨c, 1, none⟩ (.pointer (some ⟨w2.heap.size, 0, none⟩))).setCell ⟨c, 2, none⟩ (.int .i32 0)) := by
    have oc : ∀ k, k ≠ c → ((w5.setCell ⟨c, 1, none⟩ (.pointer (some ⟨w2.heap.size, 0, none⟩))).setCell ⟨c, 2, none⟩ (.int .i32 0)).heap[k]? = w5.heap[k]? := fun k hk => by
      rw [Below.heap_setCell _ _ _ _ (by simpa using hk), Below.heap_setCell _ _ _ _ (by simpa using hk)]
    have hcs : ((w5.setCell ⟨c, 1, none⟩ (.pointer (some ⟨w2.heap.size, 0, none⟩))).setCell ⟨c, 2, none⟩ (.int .i32 0)).cell? ⟨w2.heap.size + 1, 0, none⟩ = some (.string s) := by
      rw [World.cell?_of_block (a := ⟨w2.heap.size + 1, 0, none⟩) (oc (w2.heap.size + 1) (by omega))]
      simp [World.cell?, hg5']
    have hsz5 := hg5.size
    simp only [World.size_alloc] at hsz5
    refine ⟨w2.heap.size + 1, w2.heap.size, w1.heap.size, D.put (kl s) (.lit (.int .u64 ((w2.heap.size + 1 : Nat) : Int))), rfl, hcs, ?_, fun t => ?_, ?_, fun B hB hB' => ?_⟩
    · refine ⟨by simp; omega, by omega, by omega, ?_, ?_, ?_, ?_, ?_, (hm5.setCell (by simp; omega) _).setCell (by simp; omega) _, fun t ht => ?_⟩
      · rw [World.cell?_setCell_other _ _ _ _ (by simp)]; exact World.cell?_setCell_same _ _ _ c15
      · exact World.cell?_setCell_same _ _ _ (by rw [World.cell?_setCell_other _ _ _ _ (by simp)]; exact c25)
      · rw [World.frozen?_setCell, World.frozen?_setCell]; exact f15
      · rw [World.frozen?_setCell, World.frozen?_setCell]; exact f25
      · rw [oc _ (by omega)]; exact hp5
      · by_cases e : t = s
        · subst e
          exact ⟨w2.heap.size + 1, atKey_put_same htidy.isMap (iskl _) _ _, hcs, by omega⟩
        · rw [has_put_other (kl_ne e)] at ht
          obtain ⟨g, h1, h2, h3⟩ := h.hk t ht
          have hgl : g < w.heap.size := by
            rcases Nat.lt_or_ge g w.heap.size with h' | h'
            · exact h'
            · have e2 : w.heap[g]? = none := by rw [Array.getElem?_eq_none]; omega
              simp [World.cell?, e2] at h2
          refine ⟨g, by rw [atKey_put_other (kl_ne e)]; exact h1, ?_, h3⟩
          rw [World.cell?_of_block (a := ⟨g, 0, none⟩) (oc _ h3), World.cell?_of_block (a := ⟨g, 0, none⟩) (old g (by omega)), ← hw1, World.cell?_setCell_other _ _ _ _ (by simp <;> omega)]
          exact h2
    · by_cases e : t = s
      · subst e; rw [has_put_same htidy.isMap (iskl _)]; simp
      · rw [has_put_other (kl_ne e)]; simp [e]
    · exact size_put htidy _
    · refine ⟨?_, ?_, ?_, by simp; omega, fun k hk => ?_⟩
      · show w5.os = _; exact hg5.os.trans (show w2.os = w.os by rw [← hw2, ← hw1]; rfl)
      · show w5.tape = _; exact hg5.tape.trans (show w2.tape = w.tape by rw [← hw2, ← hw1]; rfl)
      · show w5.output = _; exact hg5.output.trans (show w2.output = w.output by rw [← hw2, ← hw1]; rfl)
      · rw [oc k (by omega), old k (by omega), ← hw1, Below.heap_setCell _ _ _ _ (by simp; omega)]
  have HL : Hid (Cnt w c p m n D) := h
  have H1 : Hid (w1.heap[p]? = some (.cells #[.map (some m)] 78) ∧ w1.cell? ⟨c, 1, none⟩ = some (.pointer (some ⟨p, 0, none⟩)) ∧ w1.heap[m]? = some (.map es clock)) := ⟨hp1, c11, hb⟩
  have H5 : Hid (w5.heap[w2.heap.size]? = some (.cells #[.map (some w1.heap.size)] 78) ∧ w5.cell? ⟨c, 1, none⟩ = some (.pointer (some ⟨p, 0, none⟩)) ∧ w5.cell? ⟨c, 2, none⟩ = some (.int .i32 1) ∧ w5.frozen? ⟨c, 1, none⟩ = false ∧ w5.frozen? ⟨c, 2, none⟩ = false) := ⟨hp5, c15, c25, f15, f25⟩
  have HP : Hid (Post c n D s w (.returned (.pointer (some ⟨w2.heap.size + 1, 0, none⟩))) ((w5.setCell ⟨c, 1, none⟩ (.pointer (some ⟨w2.heap.size, 0, none⟩))).setCell ⟨c, 2, none⟩ (.int .i32 0))) := hP
  have HW1 : Hid (w.setCell ⟨c, 2, none⟩ (.int .i32 1) = w1) := hw1
  have HW2 : Hid (w1.alloc (.map es clock) = w2) := hw2
  clear h hh hp1 c11 c21 hb F hsz hD hw1 hw2 hP hp5 c15 c25 f15 f25 old hg5 hg5' hm2 hm5 hsz2 hsz1 htidy cl hs hn
  go_enter_defers Try.func22, Try.ntmps22
  go_wp2_with fail
  refine (load23 c p m w HL.out.c1 HL.out.hp).mono ?_
  rintro e w' ⟨rfl, hw⟩
  rw [hw]; clear hw
  go_wp2_with fail
  refine (once.lock_free ⟨c, 2, none⟩ w HL.out.c2 HL.out.f2).mono ?_
  rintro e w' ⟨rfl, hw⟩
  rw [HW1.out] at hw
  rw [hw]; clear hw
  clear hrun hc
  go_wp2_with fail
  refine (load23 c p m w1 H1.out.2.1 H1.out.1).mono ?_
  rintro e w' ⟨rfl, hw⟩
  rw [hw]; clear hw
  go_wp2_with fail
  refine (clone_some m es clock w1 H1.out.2.2).mono ?_
  rintro e w' ⟨rfl, hw⟩
  rw [HW2.out] at hw
  rw [hw]; clear hw
  go_wp2_with fail
  refine (store21 c w2.heap.size w1.heap.size _ w5 H5.out.2.1 H5.out.2.2.2.1 H5.out.1).mono ?_
  rintro e w' ⟨rfl, hw⟩
  obtain ⟨w6, hw6⟩ : ∃ w6, w5.setCell ⟨c, 1, none⟩ (.pointer (some ⟨w2.heap.size, 0, none⟩)) = w6 := ⟨_, rfl⟩
  have HW6 : Hid (w5.setCell ⟨c, 1, none⟩ (.pointer (some ⟨w2.heap.size, 0, none⟩)) = w6) := hw6
  rw [hw6] at hw
  rw [hw]; clear hw hw6
  go_wp2_with fail
  refine leaves_cons (f := 29) (args := #[.pointer (some ⟨c, 2, none⟩)]) (by simp) (by simp [go_sem]) ?_
  refine (once.unlock_deferred ⟨c, 2, none⟩ .returning _ ?_ ?_).mono ?_
  · rw [← HW6.out, World.cell?_setCell_other _ _ _ _ (by simp)]; exact H5.out.2.2.1
  · rw [← HW6.out, World.frozen?_setCell]; exact H5.out.2.2.2.2
  rintro e u' w'' ⟨rfl, rfl, hw⟩
  rw [hw]; clear hw
  refine ⟨_, results_tmp rfl _ _ _, ?_⟩
  rw [← HW6.out]
  exact HP.out
end Go.Proofs.Qxb6615782a.tal
