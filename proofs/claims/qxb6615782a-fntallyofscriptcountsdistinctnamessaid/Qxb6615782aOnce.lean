/-
  FnStopSweepingClosesOnce: sync.Once by contracts.
-/
import Derived.Test.Qxb6615782aRows
import Derived.Tactics
import Derived.Tactics2
import Derived.Defers
import Derived.Laws.Pointers
import Derived.Laws.LoneSync
import Derived.RegionTactic
import Derived.RegionCalls
import Derived.Laws.NewBlocks
import Derived.WalkKit
import Derived.Below
import Derived.Conc.EventLaws
import Derived.Conc.LoneCalls
import Derived.Conc.SmallLaws
namespace Go.Proofs.Qxb6615782a.once
open Go.RowKit Go.Conc
set_option linter.unusedVariables false

theorem disable (w : World) : (callFunc 39 #[]).run Try.prog w = .ok (.value (.tuple #[])) w := run_call_mark0 Try.func39 (by kernel_rfl) (by kernel_rfl) (by kernel_rfl) .disable (by kernel_rfl) w
theorem enable (w : World) : (callFunc 41 #[]).run Try.prog w = .ok (.value (.tuple #[])) w := run_call_mark0 Try.func41 (by kernel_rfl) (by kernel_rfl) (by kernel_rfl) .enable (by kernel_rfl) w
theorem acquire (a : Addr) (w : World) : (callFunc 42 #[.pointer (some a)]).run Try.prog w = .ok (.value (.tuple #[])) w := run_call_marked Try.func42 (by kernel_rfl) (by kernel_rfl) (by kernel_rfl) .acquire (by kernel_rfl) a w
theorem releaseMerge (a : Addr) (w : World) : (callFunc 44 #[.pointer (some a)]).run Try.prog w = .ok (.value (.tuple #[])) w := run_call_marked Try.func44 (by kernel_rfl) (by kernel_rfl) (by kernel_rfl) .releaseMerge (by kernel_rfl) a w

theorem store_deferred (a : Addr) (x : Value) (u : FrameMode) (w : World) (hc : w.cell? a = some x) (hz : w.frozen? a = false) :
    CallsD Try.prog 38 #[.pointer (some a), .bool true] u w fun e u' w' => u' = u ∧ (e = .returned (.tuple #[]) ∧ w' = w.drew.setCell a (.int .u32 1)) := by
  have hc' : w.drew.cell? a = some x := by go_simp
  have hz' : w.drew.frozen? a = false := by go_simp
  have hst := run_call_store (P := Try.prog) Try.func47 (by kernel_rfl) (by kernel_rfl) (by kernel_rfl) (by kernel_rfl) (k := .u32) (y := 1) hc' hz'
  go_enter_d Try.func38, Try.ntmps38
  go_wp2
  go_region_calls
  all_goals (go_end0; exact ⟨rfl, rfl⟩)

set_option maxRecDepth 100000 in
set_option maxHeartbeats 800000 in
theorem unlock_deferred (a : Addr) (u : FrameMode) (w : World) (hc : w.cell? a = some (.int .i32 1)) (hz : w.frozen? a = false) :
    CallsD Try.prog 29 #[.pointer (some a)] u w fun e u' w' => u' = u ∧ (e = .returned (.tuple #[]) ∧ w' = w.setCell a (.int .i32 0)) := by
  have hd := disable
  have he := enable
  have hr := releaseMerge
  have hadd := run_call_add (P := Try.prog) Try.func45 (by kernel_rfl) (by kernel_rfl) (by kernel_rfl) .i32 (by kernel_rfl) (y := -1) (s := 0) hc hz (by simp [go_sem]; rfl)
  have hcv := run_convert_to_unsafe (P := Try.prog) (src := 105) (dst := 81) Try.underlying105 Try.underlying81 (by kernel_rfl) hc
  go_enter_d Try.func29, Try.ntmps29
  go_wp2
  go_end0
  go_wp2
  go_end0
  exact ⟨rfl, rfl⟩

set_option maxRecDepth 100000 in
set_option maxHeartbeats 800000 in
theorem lock_free (a : Addr) (w : World) (hc : w.cell? a = some (.int .i32 0)) (hz : w.frozen? a = false) :
    Calls Try.prog 28 #[.pointer (some a)] w fun e w' => e = .returned (.tuple #[]) ∧ w' = w.setCell a (.int .i32 1) := by
  have hd := disable
  have he := enable
  have ha := acquire
  have hcas := run_call_cas_hit (P := Try.prog) Try.func40 (by kernel_rfl) (by kernel_rfl) (by kernel_rfl) .i32 (by kernel_rfl) (y := 1) hc hz
  have hc' : (w.setCell a (.int .i32 1)).cell? a = some (.int .i32 1) := World.cell?_setCell_same w a _ hc
  have hcv := run_convert_to_unsafe (P := Try.prog) (src := 105) (dst := 81) Try.underlying105 Try.underlying81 (by kernel_rfl) hc'
  go_enter Try.func28, Try.ntmps28
  go_wp2
  first | go_end0 | (simp only [Exit.inBlock, Exit.then]; refine bodyPost_ret (results_none rfl _ _ _) rfl ?_) | refine bodyPost_ret (results_none rfl _ _ _) rfl ?_
  go_wp2
  go_end0
  exact ⟨rfl, rfl⟩

/-- The closed channel. -/
def shut (w : World) (c : Nat) : World := w.setChan c 0 #[] true 0 0 false
theorem shut_cell (w : World) (c : Nat) (a : Addr) (h : a.block ≠ c) : (shut w c).cell? a = w.cell? a := by
  have : (shut w c).heap[a.block]? = w.heap[a.block]? := by simp only [shut, World.setChan]; rw [Array.getElem?_setIfInBounds_ne (by omega)]
  exact World.cell?_of_block this
theorem shut_heap_other (w : World) (c k : Nat) (h : k ≠ c) : (shut w c).heap[k]? = w.heap[k]? := by
  simp only [shut, World.setChan]; rw [Array.getElem?_setIfInBounds_ne (by omega)]
theorem shut_frozen (w : World) (c : Nat) (cap s r : Nat) (buf : Array Value) (cl tm : Bool) (h : w.heap[c]? = some (.chan cap buf cl s r tm)) (a : Addr) : (shut w c).frozen? a = w.frozen? a := by
  by_cases e : a.block = c
  · have h1 : (shut w c).heap[a.block]? = some (.chan 0 #[] true 0 0 false) := by
      rw [e]; exact heap_setChan w c 0 #[] true 0 0 false (by
        rcases Nat.lt_or_ge c w.heap.size with h' | h'
        · exact h'
        · rw [Array.getElem?_eq_none h'] at h; cases h)
    rw [← e] at h
    simp [World.frozen?, h1, h]
  · exact World.frozen?_of_block (shut_heap_other w c _ e)

set_option maxRecDepth 100000 in
set_option maxHeartbeats 1600000 in
theorem slow_any (b c : Nat) (pl : Addr) (hpb : ¬ b = pl.block) (hbc : b ≠ c) (hpc : pl.block ≠ c) (w : World) (hp : w.cell? pl = some (.pointer (some ⟨b, 0, none⟩)))
    (h0 : w.cell? ⟨b, 16, none⟩ = some (.int .u32 0)) (h1 : w.cell? ⟨b, 17, none⟩ = some (.int .i32 0)) (h3 : w.cell? ⟨b, 15, none⟩ = some (.chan (some c))) (hc : w.heap[c]? = some (.chan 0 #[] false 0 0 false))
    (f0 : w.frozen? ⟨b, 16, none⟩ = false) (f1 : w.frozen? ⟨b, 17, none⟩ = false) :
    Calls Try.prog 33 #[.pointer (some ⟨b, 16, none⟩), .func (.func 26) #[] #[.pointer (some pl)]] w fun e w' => e = .returned (.tuple #[]) ∧
      w' = ((shut (w.setCell ⟨b, 17, none⟩ (.int .i32 1)) c).drew.setCell ⟨b, 16, none⟩ (.int .u32 1)).setCell ⟨b, 17, none⟩ (.int .i32 0) := by
  have hl := run_call_load (P := Try.prog) Try.func37 (by kernel_rfl) (by kernel_rfl) (by kernel_rfl) .u32 (by kernel_rfl) (w := w.setCell ⟨b, 17, none⟩ (.int .i32 1)) (a := ⟨b, 16, none⟩) (x := 0) ((World.cell?_setCell_other _ ⟨b, 17, none⟩ ⟨b, 16, none⟩ _ (by simp)).trans h0)
  have hp1 : (w.setCell ⟨b, 17, none⟩ (.int .i32 1)).cell? pl = some (.pointer (some ⟨b, 0, none⟩)) := (World.cell?_setCell_other _ ⟨b, 17, none⟩ pl _ (fun h => hpb (by rw [← h]))).trans hp
  have h31 : (w.setCell ⟨b, 17, none⟩ (.int .i32 1)).cell? ⟨b, 15, none⟩ = some (.chan (some c)) := (World.cell?_setCell_other _ ⟨b, 17, none⟩ ⟨b, 15, none⟩ _ (by simp)).trans h3
  have hc1 : (w.setCell ⟨b, 17, none⟩ (.int .i32 1)).heap[c]? = some (.chan 0 #[] false 0 0 false) := by
    rw [← hc]; exact Below.heap_setCell _ _ _ _ (by simpa using Ne.symm hbc)
  have hcl : ∀ ats ty, (Builtin.close_ ats ty #[.chan (some c)]).run Try.prog (w.setCell ⟨b, 17, none⟩ (.int .i32 1)) = .ok (.tuple #[]) (shut (w.setCell ⟨b, 17, none⟩ (.int .i32 1)) c) := fun ats ty => run_close_open (P := Try.prog) ats ty hc1
  have hnot : ∀ (x : Bool) (w : World), (Op.unary .not (.bool x)).run Try.prog w = .ok (.bool (!x)) w := fun _ _ => rfl
  go_enter_defers Try.func33, Try.ntmps33
  go_wp2_with (go_at_call 28; refine (lock_free ⟨b, 17, none⟩ _ (by go_simp) (by go_simp)).mono ?_; rintro e w' ⟨rfl, rfl⟩)
  go_wp2
  go_end0
  go_wp2
  refine leaves_cons (f := 38) (args := #[.pointer (some ⟨b, 16, none⟩), .bool true]) (by simp) (by simp [go_sem]) ?_
  refine (store_deferred ⟨b, 16, none⟩ (.int .u32 0) .returning _ ?_ ?_).mono ?_
  · rw [shut_cell _ _ _ hbc]
    exact (World.cell?_setCell_other _ ⟨b, 17, none⟩ ⟨b, 16, none⟩ _ (by simp)).trans h0
  · rw [shut_frozen _ _ _ _ _ _ _ _ hc1]; simp [f0]
  rintro e u' w'' ⟨rfl, rfl, rfl⟩
  refine leaves_cons (f := 29) (args := #[.pointer (some ⟨b, 17, none⟩)]) (by simp [settle]) (by simp [go_sem]) ?_
  refine (unlock_deferred ⟨b, 17, none⟩ _ _ ?_ ?_).mono ?_
  · refine (World.cell?_setCell_other _ ⟨b, 16, none⟩ ⟨b, 17, none⟩ _ (by simp)).trans ?_
    rw [World.cell?_drew, shut_cell _ _ _ hbc]
    exact World.cell?_setCell_same w _ _ h1
  · rw [World.frozen?_setCell, World.frozen?_drew, shut_frozen _ _ _ _ _ _ _ _ hc1]; simp [f1]
  rintro e u' w'' ⟨rfl, rfl, rfl⟩
  simp [Leaves, settle, results, Try.results33]
end Go.Proofs.Qxb6615782a.once
