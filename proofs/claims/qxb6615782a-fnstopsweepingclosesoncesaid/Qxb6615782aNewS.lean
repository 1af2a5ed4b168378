/-
  FnStopSweepingClosesOnce: ZZnewStore.
-/
import Derived.Test.Qxb6615782aDo
namespace Go.Proofs.Qxb6615782a.once
open Go.RowKit Go.Conc
set_option linter.unusedVariables false

theorem bytes51 : ∃ i, Try.prog.info? 51 = some i ∧ i.bytes = 0 := by
  have h : (Try.prog.info? 51).map (·.bytes) = some 0 := by kernel_rfl
  obtain ⟨i, hi, hb⟩ := Option.map_eq_some_iff.1 h
  exact ⟨i, hi, hb⟩
theorem mk46 (w : World) : (Instr.makeChan 46 (.int .i64 0)).run Try.prog w = .ok (.chan (some w.heap.size)) (w.alloc (.chan 0 #[] false 0 0 false)) := by
  obtain ⟨i, hi, hb⟩ := bytes51
  simpa using run_makeChan (P := Try.prog) (w := w) Try.underlying46 hi .i64 0 (by omega) (by rw [hb]; omega)

theorem z15 : (15 : Nat) < Try.zeroCells75.size := by decide +kernel
theorem z16 : Try.zeroCells75[16]? = some (.int .u32 0) := by kernel_rfl
theorem z17 : Try.zeroCells75[17]? = some (.int .i32 0) := by kernel_rfl

theorem frozen?_alloc_chan (w : World) (n : Nat) (a : Addr) : (w.alloc (.chan n #[] false 0 0 false)).frozen? a = w.frozen? a := by
  by_cases h : a.block = w.heap.size
  · have e1 : (w.alloc (.chan n #[] false 0 0 false)).heap[a.block]? = some (.chan n #[] false 0 0 false) := by rw [h]; exact heap_alloc_new w _
    have e2 : w.heap[a.block]? = none := by rw [h]; simp
    simp [World.frozen?, e1, e2]
  · rcases Nat.lt_or_ge a.block w.heap.size with h' | h'
    · exact World.frozen?_of_block (alloc_heap _ _ _ h')
    · have e1 : (w.alloc (.chan n #[] false 0 0 false)).heap[a.block]? = none := by
        rw [Array.getElem?_eq_none]; simp; omega
      have e2 : w.heap[a.block]? = none := by rw [Array.getElem?_eq_none]; omega
      simp [World.frozen?, e1, e2]

/-- The world behind ZZnewStore. -/
def wNew (z : Array Value) (w : World) (c d : Nat) : World := (((w.alloc (.chan 0 #[] false 0 0 false)).alloc (.chan 0 #[] false 0 0 false)).alloc (.cells ((z.setIfInBounds 15 (.chan (some c))).setIfInBounds 19 (.chan (some d))) 75)).drew

theorem stor_new (z : Array Value) (hz15 : 15 < z.size) (hz16 : z[16]? = some (.int .u32 0)) (hz17 : z[17]? = some (.int .i32 0)) (w : World) (c d : Nat) (hc : c = w.heap.size ∨ c = w.heap.size + 1) : w.heap.size ≤ w.heap.size + 1 + 1 ∧ w.heap.size ≤ c ∧ Stor (wNew z w c d) (w.heap.size + 1 + 1) c false ∧ Below w.heap.size w (wNew z w c d) ∧ ∀ a, (wNew z w c d).frozen? a = w.frozen? a := by
  have hsz : (wNew z w c d).heap.size = w.heap.size + 3 := by simp [wNew]
  have hfz : ∀ a, (wNew z w c d).frozen? a = w.frozen? a := by
    intro a
    unfold wNew
    rw [World.frozen?_drew, frozen?_alloc_cells, frozen?_alloc_chan, frozen?_alloc_chan]
  have hB : (wNew z w c d).heap[w.heap.size + 1 + 1]? = some (.cells ((z.setIfInBounds 15 (.chan (some c))).setIfInBounds 19 (.chan (some d))) 75) := by
    have := heap_alloc_new ((w.alloc (.chan 0 #[] false 0 0 false)).alloc (.chan 0 #[] false 0 0 false)) (.cells ((z.setIfInBounds 15 (.chan (some c))).setIfInBounds 19 (.chan (some d))) 75)
    simp only [World.size_alloc] at this
    exact this
  have h0 : ∀ a, a.block ≥ w.heap.size → w.frozen? a = false := by
    intro a ha
    have e2 : w.heap[a.block]? = none := by rw [Array.getElem?_eq_none]; omega
    simp [World.frozen?, e2]
  have hbel : Below w.heap.size w (wNew z w c d) := by
    refine ⟨rfl, rfl, rfl, by rw [hsz]; omega, fun k hk => ?_⟩
    show (((w.alloc _).alloc _).alloc _).heap[k]? = _
    rw [alloc_heap _ _ _ (by simp; omega), alloc_heap _ _ _ (by simp; omega), alloc_heap _ _ _ hk]
  have hchan : (wNew z w c d).heap[c]? = some (.chan 0 #[] false 0 0 false) := by
    show (((w.alloc _).alloc _).alloc _).heap[c]? = _
    rcases hc with hc | hc
    · rw [alloc_heap _ _ _ (by simp; omega), alloc_heap _ _ _ (by simp; omega), hc]
      exact heap_alloc_new w _
    · rw [alloc_heap _ _ _ (by simp; omega), hc]
      have := heap_alloc_new (w.alloc (.chan 0 #[] false 0 0 false)) (.chan 0 #[] false 0 0 false)
      simpa only [World.size_alloc] using this
  refine ⟨by omega, by omega, ⟨by omega, by rw [hsz]; omega, by rw [hsz]; omega, ?_, hchan, ?_, ?_, (hfz _).trans (h0 _ (by simp; omega)), (hfz _).trans (h0 _ (by simp; omega))⟩, hbel, hfz⟩
  · simp only [World.cell?, hB]
    simp [hz15]
  · simp only [World.cell?, hB]
    simp [hz16]
  · simp only [World.cell?, hB]
    simp [hz17]

set_option maxRecDepth 100000 in
set_option maxHeartbeats 1600000 in
theorem new11 (w : World) :
    Calls Try.prog 11 #[] w fun e w' => ∃ b c, e = .returned (.pointer (some ⟨b, 0, none⟩)) ∧ w.heap.size ≤ b ∧ w.heap.size ≤ c ∧ Stor w' b c false ∧ Below w.heap.size w w' ∧ ∀ a, w'.frozen? a = w.frozen? a := by
  have hmc := mk46
  go_enter Try.func11, Try.ntmps11
  go_wp2
  go_region
  · go_wp2
    go_ret
    exact ⟨_, w.heap.size, rfl, stor_new Try.zeroCells75 z15 z16 z17 w _ _ (.inl rfl)⟩
  · go_wp2
    go_ret
    exact ⟨_, w.heap.size + 1, rfl, stor_new Try.zeroCells75 z15 z16 z17 w _ _ (.inr rfl)⟩
end Go.Proofs.Qxb6615782a.once
