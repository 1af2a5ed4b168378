/-
  ZZnewEventQueue.
-/
import Derived.Test.Qxb6614809aCancel
namespace Go.Proofs.Qxb6614809a
open Go.RowKit
set_option linter.unusedVariables false

theorem Try.info46 : (Try.prog.info? 46).map (fun i => (i.zero, i.size, i.bytes)) = some (some (.agg #[.int .i64 0, .int .u64 0, .int .u8 0, .int .i64 0]), 4, 32) := by kernel_rfl

def evAt (A S K R : List Int) (j : Nat) : Ev := ⟨A.getD j 0, S.getD j 0, K.getD j 0, R.getD j 0⟩

/-- k items are laid -/
structure Laid (w wr : World) (n : Nat) (A S K R : List Int) (k : Nat) : Prop where
  bel : Below w.heap.size w wr
  sz : wr.heap.size = w.heap.size + 1
  ex : ∀ j, j < n → ∀ c, c < 4 → ∃ v, wr.cell? ⟨w.heap.size, j * 4 + c, none⟩ = some v
  it : ∀ j, j < k → wr.cell? ⟨w.heap.size, j * 4, none⟩ = some (.int .i64 (evAt A S K R j).t) ∧ wr.cell? ⟨w.heap.size, j * 4 + 1, none⟩ = some (.int .u64 (evAt A S K R j).s) ∧ wr.cell? ⟨w.heap.size, j * 4 + 2, none⟩ = some (.int .u8 (evAt A S K R j).k) ∧ wr.cell? ⟨w.heap.size, j * 4 + 3, none⟩ = some (.int .i64 (evAt A S K R j).r)
  fz : ∀ o, wr.frozen? ⟨w.heap.size, o, none⟩ = false

theorem run_make_ev (n : Nat) (hn : n ≤ 4096) (w : World) : (Instr.makeSlice 42 (.int .i64 (n : Int)) (.int .i64 (n : Int))).run Try.prog w = .ok (.slice (some ⟨w.heap.size, 0, none⟩) n n) (w.alloc (.cells (madeCells #[.int .i64 0, .int .u64 0, .int .u8 0, .int .i64 0] (n * 4)) 46)) := by
  obtain ⟨i, hi, hz0, hz1, hz2⟩ := info_parts Try.info46
  have hr := run_make (P := Try.prog) w 42 46 i (.agg #[.int .i64 0, .int .u64 0, .int .u8 0, .int .i64 0]) Try.underlying42 hi hz0 .i64 .i64 n n (by omega) (Int.le_refl _) (by rw [hz2]; omega) (by omega)
  rw [hr, hz1, Int.toNat_natCast]
  rfl

theorem Ints.lt_at {k : IntKind} {w : World} {b off : Nat} {zs : List Int} (h : Ints k w (some ⟨b, off, none⟩) zs) {i : Nat} (hi : i < zs.length) : b < w.heap.size := by
  obtain ⟨b', off', e, hc⟩ := h.at hi
  injection e with e
  injection e with e1 e2
  subst e1
  have h1 := hc i hi
  apply Decidable.byContradiction
  intro hcn
  have : w.heap[b]? = none := Array.getElem?_eq_none (by omega)
  simp [World.cell?, this] at h1

theorem Laid.start (w : World) (n : Nat) (A S K R : List Int) : Laid w (w.alloc (.cells (madeCells #[.int .i64 0, .int .u64 0, .int .u8 0, .int .i64 0] (n * 4)) 46)) n A S K R 0 := by
  refine ⟨(Below.refl _ w).alloc (Nat.le_refl _) _, by simp, fun j hj c hc => ?_, fun j hj => absurd hj (by omega), fun o => by simp⟩
  have hlt : j * 4 + c < (madeCells #[Value.int .i64 0, .int .u64 0, .int .u8 0, .int .i64 0] (n * 4)).size := by simp [madeCells]; omega
  refine ⟨(madeCells #[Value.int .i64 0, .int .u64 0, .int .u8 0, .int .i64 0] (n * 4))[j * 4 + c], ?_⟩
  unfold World.cell?
  rw [heap_alloc_new]
  simp [hlt]
theorem Laid.drew {w wr : World} {n : Nat} {A S K R : List Int} {k : Nat} (h : Laid w wr n A S K R k) : Laid w wr.drew n A S K R k := ⟨h.bel.drew, h.sz, h.ex, h.it, h.fz⟩
theorem Laid.step {w wr : World} {n : Nat} {A S K R : List Int} {k : Nat} (h : Laid w wr n A S K R k) (hk : k < n) : Laid w (put4 wr w.heap.size (k * 4) (evAt A S K R k)) n A S K R (k + 1) := by
  have hex := h.ex k hk
  have sm := put4_same wr w.heap.size (k * 4) (evAt A S K R k) hex
  refine ⟨?_, by rw [put4_size]; exact h.sz, ?_, ?_, ?_⟩
  · exact (((h.bel.setCell (p := ⟨w.heap.size, k * 4, none⟩) (Nat.le_refl _) _).setCell (p := ⟨w.heap.size, k * 4 + 1, none⟩) (Nat.le_refl _) _).setCell (p := ⟨w.heap.size, k * 4 + 2, none⟩) (Nat.le_refl _) _).setCell (p := ⟨w.heap.size, k * 4 + 3, none⟩) (Nat.le_refl _) _
  · intro j hj c hc
    by_cases e : j = k
    · subst e
      match c, hc with
      | 0, _ => exact ⟨_, sm.1⟩
      | 1, _ => exact ⟨_, sm.2.1⟩
      | 2, _ => exact ⟨_, sm.2.2.1⟩
      | 3, _ => exact ⟨_, sm.2.2.2⟩
    · rw [put4_other _ _ _ _ _ _ (.inr (by omega))]
      exact h.ex j hj c hc
  · intro j hj
    by_cases e : j = k
    · subst e; exact sm
    · rw [put4_other _ _ _ _ _ _ (.inr (by omega)), put4_other _ _ _ _ _ _ (.inr (by omega)), put4_other _ _ _ _ _ _ (.inr (by omega)), put4_other _ _ _ _ _ _ (.inr (by omega))]
      exact h.it j (by omega)
  · intro o
    rw [put4_frozen]; exact h.fz o

theorem ret_ptr {a b : Nat} (h : a = b) : Ending.returned (.pointer (some ⟨a, 0, none⟩)) = .returned (.pointer (some ⟨b, 0, none⟩)) := by rw [h]

/-- the queue as it is made -/
structure NewQ (w w' : World) (n : Nat) (A S K R : List Int) (vp : Value) : Prop where
  bel : Below w.heap.size w w'
  sz : w.heap.size + 1 < w'.heap.size
  c0 : w'.cell? ⟨w.heap.size + 1, 0, none⟩ = some (.slice (some ⟨w.heap.size, 0, none⟩) n n)
  c1 : w'.cell? ⟨w.heap.size + 1, 1, none⟩ = some (.func (.func 16) #[] #[])
  c2 : w'.cell? ⟨w.heap.size + 1, 2, none⟩ = some (.func (.func 17) #[] #[])
  c3 : w'.cell? ⟨w.heap.size + 1, 3, none⟩ = some vp
  it : ∀ j, j < n → w'.cell? ⟨w.heap.size, j * 4, none⟩ = some (.int .i64 (evAt A S K R j).t) ∧ w'.cell? ⟨w.heap.size, j * 4 + 1, none⟩ = some (.int .u64 (evAt A S K R j).s) ∧ w'.cell? ⟨w.heap.size, j * 4 + 2, none⟩ = some (.int .u8 (evAt A S K R j).k) ∧ w'.cell? ⟨w.heap.size, j * 4 + 3, none⟩ = some (.int .i64 (evAt A S K R j).r)
  fi : ∀ o, w'.frozen? ⟨w.heap.size, o, none⟩ = false
  fq : ∀ o, w'.frozen? ⟨w.heap.size + 1, o, none⟩ = false

theorem Laid.newq {w wr : World} {n : Nat} {A S K R : List Int} (h : Laid w wr n A S K R n) (vp : Value) : NewQ w (wr.alloc (.cells #[.slice (some ⟨w.heap.size, 0, none⟩) n n, .func (.func 16) #[] #[], .func (.func 17) #[] #[], vp] 52)) n A S K R vp := by
  have c : ∀ v, (wr.alloc v).cell? = (wr.alloc v).cell? := fun _ => rfl
  have e1 : w.heap.size + 1 = wr.heap.size := h.sz.symm
  have old : ∀ (ob : Obj) o, (wr.alloc ob).cell? ⟨w.heap.size, o, none⟩ = wr.cell? ⟨w.heap.size, o, none⟩ := fun ob o => World.cell?_of_block (w := wr) (Below.heap_alloc _ _ _ (by show w.heap.size < _; omega))
  have oldf : ∀ (ob : Obj) o, (wr.alloc ob).frozen? ⟨w.heap.size, o, none⟩ = wr.frozen? ⟨w.heap.size, o, none⟩ := fun ob o => World.frozen?_of_block (w := wr) (Below.heap_alloc _ _ _ (by show w.heap.size < _; omega))
  refine ⟨h.bel.alloc (by omega) _, by simp; omega, ?_, ?_, ?_, ?_, ?_, ?_, ?_⟩
  · rw [e1]; simp
  · rw [e1]; simp
  · rw [e1]; simp
  · rw [e1]; simp
  · intro j hj; rw [old, old, old, old]; exact h.it j hj
  · intro o; rw [oldf]; exact h.fz o
  · intro o; rw [e1]; simp

set_option maxRecDepth 100000 in
set_option maxHeartbeats 1000000 in
theorem newq_any (a0 : Option Addr) (k0 : Nat) (A : List Int) (a1 : Option Addr) (k1 : Nat) (S : List Int) (a2 : Option Addr) (k2 : Nat) (K : List Int) (a3 : Option Addr) (k3 : Nat) (R : List Int) (ap : Option Addr) (m kp n : Nat) (w : World)
    (hA : Ints .i64 w a0 A) (hS : Ints .u64 w a1 S) (hK : Ints .u8 w a2 K) (hR : Ints .i64 w a3 R) (lA : A.length = n) (lS : S.length = n) (lK : K.length = n) (lR : R.length = n) (hn : n ≤ 4096) :
    Calls Try.prog 8 #[.slice a0 n k0, .slice a1 n k1, .slice a2 n k2, .slice a3 n k3, .slice ap m kp] w fun e w' => e = .returned (.pointer (some ⟨w.heap.size + 1, 0, none⟩)) ∧ NewQ w w' n A S K R (.slice ap m kp) := by
  have HI : Hid (Ints .i64 w a0 A ∧ Ints .u64 w a1 S ∧ Ints .u8 w a2 K ∧ Ints .i64 w a3 R ∧ A.length = n ∧ S.length = n ∧ K.length = n ∧ R.length = n) := ⟨hA, hS, hK, hR, lA, lS, lK, lR⟩
  clear hA hS hK hR lA lS lK lR
  have hmk := run_make_ev n hn
  go_enter Try.func8, Try.ntmps8
  go_wp2
  clear hmk
  go_loopw [18] (fun c wr => ∃ k : Nat, k ≤ n ∧ c = .int .i64 k ∧ Laid w wr n A S K R k) (fun c _ => n - (intOf c).toNat)
  case atStart => exact ⟨0, Nat.zero_le _, rfl, Laid.start _ _ _ _ _ _⟩
  case round =>
    obtain ⟨k, hk, rfl, hL⟩ := hrel
    have HL : Hid (Laid w wr n A S K R k) := hL
    by_cases hlt : k < n
    · obtain ⟨iA, iS, iK, iR, lA, lS, lK, lR⟩ := HI.out
      obtain ⟨b0, o0, rfl, cA⟩ := (iA.below hL.bel).at (i := k) (by omega)
      obtain ⟨b1, o1, rfl, cS⟩ := (iS.below hL.bel).at (i := k) (by omega)
      obtain ⟨b2, o2, rfl, cK⟩ := (iK.below hL.bel).at (i := k) (by omega)
      obtain ⟨b3, o3, rfl, cR⟩ := (iR.below hL.bel).at (i := k) (by omega)
      have lt0 := iA.lt_at (i := k) (by omega)
      have lt1 := iS.lt_at (i := k) (by omega)
      have lt2 := iK.lt_at (i := k) (by omega)
      have lt3 := iR.lt_at (i := k) (by omega)
      replace cA : wr.cell? ⟨b0, o0 + k, none⟩ = some (.int .i64 (evAt A S K R k).t) := cA k (by omega)
      replace cS : wr.cell? ⟨b1, o1 + k, none⟩ = some (.int .u64 (evAt A S K R k).s) := cS k (by omega)
      replace cK : wr.cell? ⟨b2, o2 + k, none⟩ = some (.int .u8 (evAt A S K R k).k) := cK k (by omega)
      replace cR : wr.cell? ⟨b3, o3 + k, none⟩ = some (.int .i64 (evAt A S K R k).r) := cR k (by omega)
      obtain ⟨v0, d0⟩ := hL.ex k hlt 0 (by omega)
      obtain ⟨v1, d1⟩ := hL.ex k hlt 1 (by omega)
      obtain ⟨v2, d2⟩ := hL.ex k hlt 2 (by omega)
      obtain ⟨v3, d3⟩ := hL.ex k hlt 3 (by omega)
      replace d0 : wr.cell? ⟨w.heap.size, k * 4, none⟩ = some v0 := d0
      have fz := hL.fz
      have HE : Hid _ := (hL.step hlt).drew
      generalize evAt A S K R k = x at *
      generalize w.heap.size = g at *
      have n0 : b0 ≠ g := by omega
      have n1 : b1 ≠ g := by omega
      have n2 : b2 ≠ g := by omega
      have n3 : b3 ≠ g := by omega
      have n0' : g ≠ b0 := by omega
      have n1' : g ≠ b1 := by omega
      have n2' : g ≠ b2 := by omega
      have n3' : g ≠ b3 := by omega
      have hk0 : (0 : Int) ≤ (k : Int) := by omega
      have hk1 : (k : Int) < (n : Int) := by omega
      clear hL iA iS iK iR lA lS lK lR
      go_wp2_with fail
      go_region_held3 (fun w' => w'.cell? ⟨b0, o0 + k, none⟩ = some (.int .i64 x.t) ∧ w'.cell? ⟨b1, o1 + k, none⟩ = some (.int .u64 x.s) ∧ w'.cell? ⟨b2, o2 + k, none⟩ = some (.int .u8 x.k) ∧ w'.cell? ⟨b3, o3 + k, none⟩ = some (.int .i64 x.r)) (go_keep) (fail)
      go_wp2
      go_roundw
      case rel => exact ⟨k + 1, by omega, by go_num, HE.out⟩
      case measure => simp [intOf]; omega
    · obtain rfl : k = n := by omega
      go_wp2
      go_ret
      exact ⟨ret_ptr HL.out.sz, HL.out.newq _⟩

end Go.Proofs.Qxb6614809a
