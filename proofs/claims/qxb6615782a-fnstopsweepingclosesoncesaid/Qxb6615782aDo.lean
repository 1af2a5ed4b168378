/-
  FnStopSweepingClosesOnce: Once.Do, stopSweeping, ZZnewStore.
-/
import Derived.Test.Qxb6615782aOnce
namespace Go.Proofs.Qxb6615782a.once
open Go.RowKit Go.Conc
set_option linter.unusedVariables false

/-- The store at block b, its stop channel at block c, closed or not. -/
structure Stor (w : World) (b c : Nat) (cl : Bool) : Prop where
  bc : b ≠ c
  bl : b < w.heap.size
  cL : c < w.heap.size
  ch : w.cell? ⟨b, 15, none⟩ = some (.chan (some c))
  blk : w.heap[c]? = some (.chan 0 #[] cl 0 0 false)
  dn : w.cell? ⟨b, 16, none⟩ = some (.int .u32 (if cl then 1 else 0))
  mu : w.cell? ⟨b, 17, none⟩ = some (.int .i32 0)
  f0 : w.frozen? ⟨b, 16, none⟩ = false
  f1 : w.frozen? ⟨b, 17, none⟩ = false

/-- All blocks but b and c are as they were. -/
structure Apart (b c : Nat) (w w' : World) : Prop where
  os : w'.os = w.os
  tape : w'.tape = w.tape
  output : w'.output = w.output
  size : w.heap.size ≤ w'.heap.size
  block : ∀ k, k < w.heap.size → k ≠ b → k ≠ c → w'.heap[k]? = w.heap[k]?
  fz : ∀ a, w'.frozen? a = w.frozen? a

theorem Stor.keep {w w' : World} {b c b' c' : Nat} {cl : Bool} (h : Stor w b c cl) (k : Apart b' c' w w') (h1 : b ≠ b') (h2 : b ≠ c') (h3 : c ≠ b') (h4 : c ≠ c') : Stor w' b c cl := by
  have hb := k.block b h.bl h1 h2
  have hc := k.block c h.cL h3 h4
  exact ⟨h.bc, Nat.lt_of_lt_of_le h.bl k.size, Nat.lt_of_lt_of_le h.cL k.size, (World.cell?_of_block (a := ⟨b, 15, none⟩) hb).trans h.ch, hc.trans h.blk, (World.cell?_of_block (a := ⟨b, 16, none⟩) hb).trans h.dn, (World.cell?_of_block (a := ⟨b, 17, none⟩) hb).trans h.mu, (k.fz _).trans h.f0, (k.fz _).trans h.f1⟩

set_option maxRecDepth 100000 in
set_option maxHeartbeats 1600000 in
theorem do_first (b c : Nat) (pl : Addr) (hpb : ¬ b = pl.block) (hbc : b ≠ c) (hpc : pl.block ≠ c) (w : World) (hp : w.cell? pl = some (.pointer (some ⟨b, 0, none⟩)))
    (h0 : w.cell? ⟨b, 16, none⟩ = some (.int .u32 0)) (h1 : w.cell? ⟨b, 17, none⟩ = some (.int .i32 0)) (h3 : w.cell? ⟨b, 15, none⟩ = some (.chan (some c))) (hc : w.heap[c]? = some (.chan 0 #[] false 0 0 false))
    (f0 : w.frozen? ⟨b, 16, none⟩ = false) (f1 : w.frozen? ⟨b, 17, none⟩ = false) :
    Calls Try.prog 25 #[.pointer (some ⟨b, 16, none⟩), .func (.func 26) #[] #[.pointer (some pl)]] w fun e w' => e = .returned (.tuple #[]) ∧
      w' = ((shut (w.setCell ⟨b, 17, none⟩ (.int .i32 1)) c).drew.setCell ⟨b, 16, none⟩ (.int .u32 1)).setCell ⟨b, 17, none⟩ (.int .i32 0) := by
  have hl := run_call_load (P := Try.prog) Try.func37 (by kernel_rfl) (by kernel_rfl) (by kernel_rfl) .u32 (by kernel_rfl) h0
  have hnot : ∀ (x : Bool) (w : World), (Op.unary .not (.bool x)).run Try.prog w = .ok (.bool (!x)) w := fun _ _ => rfl
  go_enter Try.func25, Try.ntmps25
  go_wp2_with (first | (go_at_call 33; refine (slow_any b c pl hpb hbc hpc _ hp h0 h1 h3 hc f0 f1).mono ?_; rintro e w' ⟨rfl, rfl⟩) | (go_at_call 32; go_in))
  go_end0
  exact ⟨rfl, rfl⟩

set_option maxRecDepth 100000 in
theorem do_done (a : Addr) (d : Int) (hd : ¬ d = 0) (fv : Value) (w : World) (h0 : w.cell? a = some (.int .u32 d)) :
    Calls Try.prog 25 #[.pointer (some a), fv] w fun e w' => e = .returned (.tuple #[]) ∧ w' = w := by
  have hl := run_call_load (P := Try.prog) Try.func37 (by kernel_rfl) (by kernel_rfl) (by kernel_rfl) .u32 (by kernel_rfl) h0
  have hnot : ∀ (x : Bool) (w : World), (Op.unary .not (.bool x)).run Try.prog w = .ok (.bool (!x)) w := fun _ _ => rfl
  have hd' : (d != 0) = true := by simp [hd]
  go_enter Try.func25, Try.ntmps25
  go_wp2
  go_end0
  exact ⟨rfl, rfl⟩

theorem alloc_heap (w : World) (o : Obj) (k : Nat) (h : k < w.heap.size) : (w.alloc o).heap[k]? = w.heap[k]? := Below.heap_alloc _ _ _ h

theorem Apart.refl (b c : Nat) (w : World) : Apart b c w w := ⟨rfl, rfl, rfl, Nat.le_refl _, fun _ _ _ _ => rfl, fun _ => rfl⟩
theorem Apart.trans {b c : Nat} {x y z : World} (h : Apart b c x y) (k : Apart b c y z) : Apart b c x z :=
  ⟨k.os.trans h.os, k.tape.trans h.tape, k.output.trans h.output, Nat.le_trans h.size k.size, fun i hi h1 h2 => (k.block i (Nat.lt_of_lt_of_le hi h.size) h1 h2).trans (h.block i hi h1 h2), fun a => (k.fz a).trans (h.fz a)⟩

theorem apart_end (b c : Nat) (w : World) (h : Stor w b c false) : Stor (((shut (w.setCell ⟨b, 17, none⟩ (.int .i32 1)) c).drew.setCell ⟨b, 16, none⟩ (.int .u32 1)).setCell ⟨b, 17, none⟩ (.int .i32 0)) b c true ∧ Apart b c w (((shut (w.setCell ⟨b, 17, none⟩ (.int .i32 1)) c).drew.setCell ⟨b, 16, none⟩ (.int .u32 1)).setCell ⟨b, 17, none⟩ (.int .i32 0)) := by
  have hc1 : (w.setCell ⟨b, 17, none⟩ (.int .i32 1)).heap[c]? = some (.chan 0 #[] false 0 0 false) := by
    rw [← h.blk]; exact Below.heap_setCell _ _ _ _ (by simpa using Ne.symm h.bc)
  have hcL : c < (w.setCell ⟨b, 17, none⟩ (.int .i32 1)).heap.size := by simpa using h.cL
  have hfz : ∀ a, (((shut (w.setCell ⟨b, 17, none⟩ (.int .i32 1)) c).drew.setCell ⟨b, 16, none⟩ (.int .u32 1)).setCell ⟨b, 17, none⟩ (.int .i32 0)).frozen? a = w.frozen? a := by
    intro a
    rw [World.frozen?_setCell, World.frozen?_setCell, World.frozen?_drew, shut_frozen _ _ _ _ _ _ _ _ hc1, World.frozen?_setCell]
  have hsz : (((shut (w.setCell ⟨b, 17, none⟩ (.int .i32 1)) c).drew.setCell ⟨b, 16, none⟩ (.int .u32 1)).setCell ⟨b, 17, none⟩ (.int .i32 0)).heap.size = w.heap.size := by
    simp [shut, World.setChan]
  have hA : Apart b c w (((shut (w.setCell ⟨b, 17, none⟩ (.int .i32 1)) c).drew.setCell ⟨b, 16, none⟩ (.int .u32 1)).setCell ⟨b, 17, none⟩ (.int .i32 0)) := by
    refine ⟨rfl, rfl, rfl, by rw [hsz]; exact Nat.le_refl _, fun k hk h1 h2 => ?_, hfz⟩
    rw [Below.heap_setCell _ _ _ _ (by simpa using h1), Below.heap_setCell _ _ _ _ (by simpa using h1)]
    show (shut (w.setCell ⟨b, 17, none⟩ (.int .i32 1)) c).heap[k]? = _
    rw [shut_heap_other _ _ _ h2, Below.heap_setCell _ _ _ _ (by simpa using h1)]
  refine ⟨⟨h.bc, by rw [hsz]; exact h.bl, by rw [hsz]; exact h.cL, ?_, ?_, ?_, ?_, (hfz _).trans h.f0, (hfz _).trans h.f1⟩, hA⟩
  · rw [World.cell?_setCell_other _ _ ⟨b, 15, none⟩ _ (by simp), World.cell?_setCell_other _ _ ⟨b, 15, none⟩ _ (by simp), World.cell?_drew, shut_cell _ _ _ h.bc, World.cell?_setCell_other _ _ ⟨b, 15, none⟩ _ (by simp)]
    exact h.ch
  · rw [Below.heap_setCell _ _ _ _ (by simpa using Ne.symm h.bc), Below.heap_setCell _ _ _ _ (by simpa using Ne.symm h.bc)]
    exact heap_setChan _ c 0 #[] true 0 0 false hcL
  · rw [World.cell?_setCell_other _ _ ⟨b, 16, none⟩ _ (by simp)]
    refine World.cell?_setCell_same _ _ _ (u := .int .u32 0) ?_
    rw [World.cell?_drew, shut_cell _ _ _ h.bc, World.cell?_setCell_other _ _ ⟨b, 16, none⟩ _ (by simp)]
    exact h.dn
  · refine World.cell?_setCell_same _ _ _ (u := .int .i32 1) ?_
    rw [World.cell?_setCell_other _ _ ⟨b, 17, none⟩ _ (by simp), World.cell?_drew, shut_cell _ _ _ h.bc]
    exact World.cell?_setCell_same _ _ _ h.mu

theorem do_any (b c : Nat) (cl : Bool) (pl : Addr) (hpb : ¬ b = pl.block) (hpc : pl.block ≠ c) (w : World) (hp : w.cell? pl = some (.pointer (some ⟨b, 0, none⟩))) (h : Stor w b c cl) :
    Calls Try.prog 25 #[.pointer (some ⟨b, 16, none⟩), .func (.func 26) #[] #[.pointer (some pl)]] w fun e w' => e = .returned (.tuple #[]) ∧ Stor w' b c true ∧ Apart b c w w' := by
  cases cl
  · refine (do_first b c pl hpb h.bc hpc w hp h.dn h.mu h.ch h.blk h.f0 h.f1).mono ?_
    rintro e w' ⟨rfl, hw⟩
    rw [hw]
    exact ⟨rfl, apart_end b c w h⟩
  · refine (do_done ⟨b, 16, none⟩ 1 (by omega) _ w h.dn).mono ?_
    rintro e w' ⟨rfl, hw⟩
    rw [hw]
    exact ⟨rfl, h, Apart.refl _ _ _⟩

set_option maxRecDepth 100000 in
set_option maxHeartbeats 1600000 in
theorem stop20 (b c : Nat) (cl : Bool) (w : World) (h : Stor w b c cl) :
    Calls Try.prog 20 #[.pointer (some ⟨b, 0, none⟩)] w fun e w' => e = .returned (.tuple #[]) ∧ Stor w' b c true ∧ Apart b c w w' := by
  have hmf : ∀ (fn : Fn) (first cap : Array Value) (w : World), (Instr.makeFunc fn first cap).run Try.prog w = .ok (.func fn first cap) w := fun _ _ _ _ => rfl
  have hbc := h.bc
  have hbl := h.bl
  have hcl := h.cL
  have HA : Hid (∀ t : TypeId, Stor (w.alloc (.cells #[.pointer (some ⟨b, 0, none⟩)] t)) b c cl ∧ Apart b c w (w.alloc (.cells #[.pointer (some ⟨b, 0, none⟩)] t))) := by
    intro t
    have hA : Apart b c w (w.alloc (.cells #[.pointer (some ⟨b, 0, none⟩)] t)) := ⟨rfl, rfl, rfl, by simp, fun k hk _ _ => alloc_heap _ _ _ hk, fun a => frozen?_alloc_cells _ _ _ _⟩
    have hb := alloc_heap w (.cells #[.pointer (some ⟨b, 0, none⟩)] t) b hbl
    have hc := alloc_heap w (.cells #[.pointer (some ⟨b, 0, none⟩)] t) c hcl
    exact ⟨⟨hbc, Nat.lt_of_lt_of_le hbl hA.size, Nat.lt_of_lt_of_le hcl hA.size, (World.cell?_of_block (a := ⟨b, 15, none⟩) hb).trans h.ch, hc.trans h.blk, (World.cell?_of_block (a := ⟨b, 16, none⟩) hb).trans h.dn, (World.cell?_of_block (a := ⟨b, 17, none⟩) hb).trans h.mu, (hA.fz _).trans h.f0, (hA.fz _).trans h.f1⟩, hA⟩
  clear h
  have hpl : ∀ t : TypeId, (w.alloc (.cells #[.pointer (some ⟨b, 0, none⟩)] t)).cell? ⟨w.heap.size, 0, none⟩ = some (.pointer (some ⟨b, 0, none⟩)) := fun t => by simp
  go_enter Try.func20, Try.ntmps20
  go_wp2_with fail
  refine (do_any b c cl ⟨w.heap.size, 0, none⟩ (by simp; omega) (by simp; omega) _ (hpl 28) (HA.out 28).1).mono ?_
  rintro e w' ⟨rfl, hs, ha⟩
  have HS : Hid (Stor w' b c true ∧ Apart b c w w') := ⟨hs, (HA.out 28).2.trans ha⟩
  clear hs ha
  go_wp2
  go_end0
  exact ⟨rfl, HS.out⟩

set_option maxRecDepth 100000 in
theorem stop13 (b c : Nat) (cl : Bool) (w : World) (h : Stor w b c cl) :
    Calls Try.prog 13 #[.pointer (some ⟨b, 0, none⟩)] w fun e w' => e = .returned (.tuple #[]) ∧ Stor w' b c true ∧ Apart b c w w' := by
  have H : Hid (Stor w b c cl) := h
  clear h
  go_enter Try.func13, Try.ntmps13
  go_wp2_with fail
  refine (stop20 b c cl w H.out).mono ?_
  rintro e w' ⟨rfl, hs, ha⟩
  have HS : Hid (Stor w' b c true ∧ Apart b c w w') := ⟨hs, ha⟩
  clear hs ha
  go_wp2
  go_end0
  exact ⟨rfl, HS.out⟩
end Go.Proofs.Qxb6615782a.once
