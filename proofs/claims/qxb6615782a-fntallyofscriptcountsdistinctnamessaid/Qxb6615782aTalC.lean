/-
  FnTallyOfScriptCountsDistinctNames: newCounts, ZZtallyOf.
-/
import Derived.Test.Qxb6615782aTalB
namespace Go.Proofs.Qxb6615782a.tal
open Go.RowKit Go.Maps
set_option linter.unusedVariables false

set_option maxRecDepth 100000 in
theorem of16 (c p m n : Nat) (D : DataW Unit) (s : ByteArray) (hs : s.size ≤ maxLen) (w : World) (h : Cnt w c p m n D) (hn : n < maxLen) :
    Calls Try.prog 16 #[.pointer (some ⟨c, 0, none⟩), .string s] w (Post c n D s w) := by
  have H : Hid (Calls Try.prog 22 #[.pointer (some ⟨c, 0, none⟩), .string s] w (Post c n D s w)) := by
    cases hh : has D (kl s)
    · exact of_miss c p m n D s hs w h hh hn
    · exact of_hit c p m n D s hs w h hh
  clear h
  go_enter Try.func16, Try.ntmps16
  go_wp2_with fail
  refine H.out.mono ?_
  intro e w' hP
  obtain ⟨g, p', m', D', rfl, hR⟩ := hP
  have HR : Hid _ := hR
  clear hR
  go_wp2
  go_ret
  exact ⟨g, p', m', D', rfl, HR.out⟩

theorem run_mk (w : World) : (Instr.makeMap 78 none).run Try.prog w = .ok (.map (some w.heap.size)) (w.alloc (.map #[] 0)) := by
  simp [Instr.makeMap, go_sem, Result.andThen]

set_option maxRecDepth 100000 in
set_option maxHeartbeats 1000000 in
theorem new15 (own : ByteArray) (hs : own.size ≤ maxLen) (w : World) :
    Calls Try.prog 15 #[.string own] w fun e w' => ∃ c p m D, e = .returned (.pointer (some ⟨c, 0, none⟩)) ∧ Cnt w' c p m 1 D ∧ (∀ t, has D (kl t) = decide (t = own)) ∧ Maps.size D = 1 ∧ w.heap.size ≤ c ∧ Below w.heap.size w w' := by
  have hmk := run_mk
  obtain ⟨w1, hw1⟩ : ∃ w1, w.alloc (.cells #[.string own, .int .u64 0, .int .u64 0] 77) = w1 := ⟨_, rfl⟩
  obtain ⟨w2, hw2⟩ : ∃ w2, w1.alloc (.map #[] 0) = w2 := ⟨_, rfl⟩
  have hs1 : w1.heap.size = w.heap.size + 1 := by rw [← hw1]; simp
  have hs2 : w2.heap.size = w.heap.size + 2 := by rw [← hw2]; simp [hs1]
  have hm2 : w2.ownsMap Try.prog 9 RT w1.heap.size 0 (.map []) := by rw [← hw2]; exact World.ownsMap_made w1 Try.prog 9 RT
  obtain ⟨w3, hup, hm3, hg3⟩ := hm2.update law Try.underlying78 (by unfold maxLen; omega) (key_of hs) (rfl : RT (.pointer (some ⟨w.heap.size, 0, none⟩)) = some (.lit (.int .u64 (w.heap.size : Int)), []))
  have hs3 := hg3.size
  obtain ⟨w5, hw5⟩ : ∃ w5, (w3.alloc (.cells #[.map (some w1.heap.size)] 78)).alloc (.cells #[.pointer (some ⟨w.heap.size, 0, none⟩), .pointer none, .int .i32 0, .int .u32 0, .int .u64 0, .int .u64 0] 85) = w5 := ⟨_, rfl⟩
  have hB5 : w5.heap[w3.heap.size + 1]? = some (.cells #[.pointer (some ⟨w.heap.size, 0, none⟩), .pointer none, .int .i32 0, .int .u32 0, .int .u64 0, .int .u64 0] 85) := by
    rw [← hw5]
    have := heap_alloc_new (w3.alloc (.cells #[.map (some w1.heap.size)] 78)) (.cells #[.pointer (some ⟨w.heap.size, 0, none⟩), .pointer none, .int .i32 0, .int .u32 0, .int .u64 0, .int .u64 0] 85)
    simpa only [World.size_alloc] using this
  have hP5 : w5.heap[w3.heap.size]? = some (.cells #[.map (some w1.heap.size)] 78) := by
    rw [← hw5, Below.heap_alloc _ _ _ (by simp)]
    exact heap_alloc_new w3 _
  have hm5 : w5.ownsMap Try.prog 9 RT w1.heap.size 1 ((DataW.map []).put (kl own) (.lit (.int .u64 (w.heap.size : Int)))) := by
    rw [← hw5]; exact (hm3.alloc _).alloc _
  have hs5 : w5.heap.size = w3.heap.size + 2 := by rw [← hw5]; simp
  have old5 : ∀ k, k < w3.heap.size → w5.heap[k]? = w3.heap[k]? := fun k hk => by
    rw [← hw5, Below.heap_alloc _ _ _ (by simp; omega), Below.heap_alloc _ _ _ hk]
  have c1 : w5.cell? ⟨w3.heap.size + 1, 1, none⟩ = some (.pointer none) := by simp [World.cell?, hB5]
  have c2 : w5.cell? ⟨w3.heap.size + 1, 2, none⟩ = some (.int .i32 0) := by simp [World.cell?, hB5]
  have f1 : w5.frozen? ⟨w3.heap.size + 1, 1, none⟩ = false := by simp [World.frozen?, hB5]
  have f2 : w5.frozen? ⟨w3.heap.size + 1, 2, none⟩ = false := by simp [World.frozen?, hB5]
  have ht : w5.cell? ⟨w.heap.size, 0, none⟩ = some (.string own) := by
    rw [World.cell?_of_block (a := ⟨w.heap.size, 0, none⟩) (old5 w.heap.size (by omega)), World.cell?_of_block (a := ⟨w.heap.size, 0, none⟩) (hg3.block w.heap.size (by omega) (by intro e; injection e with e; omega)), ← hw2, World.cell?_of_block (a := ⟨w.heap.size, 0, none⟩) (Below.heap_alloc _ _ _ (by show w.heap.size < _; omega)), ← hw1]
    simp
  have hC : Cnt (w5.setCell ⟨w3.heap.size + 1, 1, none⟩ (.pointer (some ⟨w3.heap.size, 0, none⟩))) (w3.heap.size + 1) w3.heap.size w1.heap.size 1 ((DataW.map []).put (kl own) (.lit (.int .u64 (w.heap.size : Int)))) := by
    refine ⟨by simp; omega, by omega, by omega, World.cell?_setCell_same _ _ _ c1, ?_, by rw [World.frozen?_setCell]; exact f1, by rw [World.frozen?_setCell]; exact f2, ?_, hm5.setCell (by simp; omega) _, fun t h => ?_⟩
    · rw [World.cell?_setCell_other _ _ _ _ (by simp)]; exact c2
    · rw [Below.heap_setCell _ _ _ _ (by simp)]; exact hP5
    · by_cases e : t = own
      · subst e
        refine ⟨w.heap.size, atKey_put_same isMap_empty (iskl _) _ _, ?_, by omega⟩
        rw [World.cell?_setCell_other _ _ _ _ (by simp <;> omega)]; exact ht
      · rw [has_put_other (kl_ne e)] at h; cases h
  have hH : ∀ t, has ((DataW.map []).put (kl own) (.lit (.int .u64 (w.heap.size : Int))) : DataW Unit) (kl t) = decide (t = own) := by
    intro t
    by_cases e : t = own
    · subst e; rw [has_put_same isMap_empty (iskl _)]; simp
    · rw [has_put_other (kl_ne e)]; simp [e]; rfl
  have hZ : Maps.size ((DataW.map []).put (kl own) (.lit (.int .u64 (w.heap.size : Int))) : DataW Unit) = 1 := by
    rw [size_put tidy_empty]; rfl
  have hL : Below w.heap.size w (w5.setCell ⟨w3.heap.size + 1, 1, none⟩ (.pointer (some ⟨w3.heap.size, 0, none⟩))) := by
    refine ⟨?_, ?_, ?_, by simp; omega, fun k hk => ?_⟩
    · show w5.os = _; rw [← hw5]; exact hg3.os.trans (show w2.os = w.os by rw [← hw2, ← hw1]; rfl)
    · show w5.tape = _; rw [← hw5]; exact hg3.tape.trans (show w2.tape = w.tape by rw [← hw2, ← hw1]; rfl)
    · show w5.output = _; rw [← hw5]; exact hg3.output.trans (show w2.output = w.output by rw [← hw2, ← hw1]; rfl)
    · rw [Below.heap_setCell _ _ _ _ (by simp; omega), old5 k (by omega), hg3.block k (by omega) (by intro e; injection e with e; omega), ← hw2, Below.heap_alloc _ _ _ (by omega), ← hw1, Below.heap_alloc _ _ _ hk]
  have HA : Hid (w5.heap[w3.heap.size]? = some (.cells #[.map (some w1.heap.size)] 78) ∧ w5.cell? ⟨w3.heap.size + 1, 1, none⟩ = some (.pointer none) ∧ w5.frozen? ⟨w3.heap.size + 1, 1, none⟩ = false) := ⟨hP5, c1, f1⟩
  have HE : Hid (∃ c p m D, Ending.returned (.pointer (some ⟨w3.heap.size + 1, 0, none⟩)) = .returned (.pointer (some ⟨c, 0, none⟩)) ∧ Cnt (w5.setCell ⟨w3.heap.size + 1, 1, none⟩ (.pointer (some ⟨w3.heap.size, 0, none⟩))) c p m 1 D ∧ (∀ t, has D (kl t) = decide (t = own)) ∧ Maps.size D = 1 ∧ w.heap.size ≤ c ∧ Below w.heap.size w (w5.setCell ⟨w3.heap.size + 1, 1, none⟩ (.pointer (some ⟨w3.heap.size, 0, none⟩)))) := ⟨_, _, _, _, rfl, hC, hH, hZ, by omega, hL⟩
  rw [hs1] at hw5
  have HW5 : Hid ((w3.alloc (.cells #[.map (some (w.heap.size + 1))] 78)).alloc (.cells #[.pointer (some ⟨w.heap.size, 0, none⟩), .pointer none, .int .i32 0, .int .u32 0, .int .u64 0, .int .u64 0] 85) = w5) := hw5
  rw [hs1] at hup
  rw [← hw2, ← hw1] at hup
  clear hC hH hZ hL hP5 c1 c2 f1 f2 hB5 hm5 hs5 old5 ht hw5 hg3 hm3 hm2 hs2 hs3 hs hw2 hw1
  have HS1 : Hid (w1.heap.size = w.heap.size + 1) := hs1
  clear hs1
  go_enter Try.func15, Try.ntmps15
  go_wp2_with fail
  rw [HW5.out]
  refine (store21 (w3.heap.size + 1) w3.heap.size w1.heap.size _ w5 HA.out.2.1 HA.out.2.2 HA.out.1).mono ?_
  rintro e w' ⟨rfl, hw⟩
  have HE' : Hid _ := HE.out
  rw [← hw] at HE'
  clear hw HE
  go_wp2
  go_ret
  exact HE'.out
end Go.Proofs.Qxb6615782a.tal
