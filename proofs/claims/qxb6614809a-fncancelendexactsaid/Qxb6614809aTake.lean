/-
  minHeap.take, eventQueue.cancelEnd, ZZcancelEnd.
-/
import Derived.Test.Qxb6614809aRemove
namespace Go.Proofs.Qxb6614809a
open Go.RowKit
set_option linter.unusedVariables false

set_option maxRecDepth 100000 in
set_option maxHeartbeats 1000000 in
theorem take_short (bq m capP p : Nat) (ao : Option Addr) (w : World) (hq : bq < w.heap.size) (c3 : w.cell? ⟨bq, 3, none⟩ = some (.slice ao m capP)) (hm : m ≤ 65536) (hp : p < 9223372036854775807) (h : m ≤ p + 1) :
    Calls Try.prog 19 #[.pointer (some ⟨bq, 0, none⟩), .int .i64 p] w fun e w' => e = .returned (.tuple #[.agg #[.int .i64 0, .int .u64 0, .int .u8 0, .int .i64 0], .bool false]) ∧ Below w.heap.size w w' := by
  have h' : (m : Int) ≤ (p : Int) + 1 := by omega
  have hq1 : bq < w.heap.size + 1 := by omega
  go_enter Try.func19, Try.ntmps19
  go_wp2
  refine bodyPost_ret (v := .tuple #[.agg #[.int .i64 0, .int .u64 0, .int .u8 0, .int .i64 0], .bool false]) (by simp [results, Try.results19, go_sem]) rfl ⟨rfl, ?_⟩
  exact ((Below.refl _ _).alloc (Nat.le_refl _) _).alloc (by simp) _

set_option maxRecDepth 100000 in
set_option maxHeartbeats 1000000 in
theorem take_none (bq m capP p b o : Nat) (z : Int) (w : World) (hq : bq < w.heap.size) (hb : b < w.heap.size) (c3 : w.cell? ⟨bq, 3, none⟩ = some (.slice (some ⟨b, o, none⟩) m capP)) (hm : m ≤ 65536) (hp : p < 9223372036854775807) (h : p + 1 < m)
    (hz : w.cell? ⟨b, o + (p + 1), none⟩ = some (.int .i64 z)) (hz0 : z < 0) :
    Calls Try.prog 19 #[.pointer (some ⟨bq, 0, none⟩), .int .i64 p] w fun e w' => e = .returned (.tuple #[.agg #[.int .i64 0, .int .u64 0, .int .u8 0, .int .i64 0], .bool false]) ∧ Below w.heap.size w w' := by
  have h' : (p : Int) + 1 < (m : Int) := by omega
  have hq1 : bq < w.heap.size + 1 := by omega
  have hb1 : b < w.heap.size + 1 := by omega
  go_enter Try.func19, Try.ntmps19
  go_wp2
  refine bodyPost_ret (v := .tuple #[.agg #[.int .i64 0, .int .u64 0, .int .u8 0, .int .i64 0], .bool false]) (by simp [results, Try.results19, go_sem]) rfl ⟨rfl, ?_⟩
  exact ((Below.refl _ _).alloc (Nat.le_refl _) _).alloc (by simp) _

set_option maxRecDepth 100000 in
set_option maxHeartbeats 1000000 in
theorem take_yes (N : Nums) (i0 n m p : Nat) (L : Nat → Ev) (P : Nat → Int) (w : World) (hv : Val (n + 1) m L P) (h : Q N w (n + 1) L m P) (hin : i0 < n + 1) (hcap : n + 1 ≤ N.cap) (hp : p + 1 < m) (hk2 : (L i0).k = 2) (hrq : (L i0).r = (p : Int)) (hpl : P (p + 1) = (i0 : Int)) :
    Calls Try.prog 19 #[.pointer (some ⟨N.bq, 0, none⟩), .int .i64 p] w fun e w' => e = .returned (.tuple #[.agg #[.int .i64 (L i0).t, .int .u64 (L i0).s, .int .u8 (L i0).k, .int .i64 (L i0).r], .bool true]) ∧ Removed N n m i0 (p + 1) L P w w' := by
  obtain ⟨bq, bi, bp, cap, capP⟩ := N
  have hq : bq < w.heap.size := h.hq
  have hi : bi < w.heap.size := h.hi
  have hb : bp < w.heap.size := h.hp
  have hm4 : m ≤ 65536 := h.hm
  have c3 : w.cell? ⟨bq, 3, none⟩ = some (.slice (some ⟨bp, 0, none⟩) m capP) := h.c3
  have hz : w.cell? ⟨bp, p + 1, none⟩ = some (.int .i64 (i0 : Int)) := by rw [← hpl]; exact h.pl (p + 1) hp
  have HR : Hid _ := fun w' (hw : Q ⟨bq, bi, bp, cap, capP⟩ w' (n + 1) L m P) => remove_any ⟨bq, bi, bp, cap, capP⟩ i0 n m (p + 1) L P w' hv hw hin hcap hk2 (by rw [hrq]; omega)
  have HH : Hid (Q ⟨bq, bi, bp, cap, capP⟩ w (n + 1) L m P) := h
  obtain ⟨x, hx⟩ : ∃ x, L i0 = x := ⟨_, rfl⟩
  have HX : Hid (L i0 = x) := hx
  rw [hx]
  clear h hv hk2 hrq hpl hcap hx
  have h' : (p : Int) + 1 < (m : Int) := by omega
  have hq1 : bq < w.heap.size + 1 := by omega
  have hb1 : bp < w.heap.size + 1 := by omega
  have hi0 : (0 : Int) ≤ (i0 : Int) := by omega
  go_enter Try.func19, Try.ntmps19
  go_wp2_with fail
  refine (HR.out _ (HH.out.alloc _)).mono ?_
  rintro e w1 ⟨rfl, L', P', hQ, hF, hG⟩
  rw [HX.out]
  unfold evV
  have hb0 := (Box.new w ⟨0, 0, 0, 0⟩ rfl).fr hF (by show w.heap.size ≠ bq; omega) (by show w.heap.size ≠ bi; omega) (by show w.heap.size ≠ bp; omega)
  have b00 : w1.cell? ⟨w.heap.size, 0, none⟩ = some (.int .i64 0) := hb0.c0
  have b01 : w1.cell? ⟨w.heap.size, 1, none⟩ = some (.int .u64 0) := hb0.c1
  have b02 : w1.cell? ⟨w.heap.size, 2, none⟩ = some (.int .u8 0) := hb0.c2
  have b03 : w1.cell? ⟨w.heap.size, 3, none⟩ = some (.int .i64 0) := hb0.c3
  have fb : ∀ o, w1.frozen? ⟨w.heap.size, o, none⟩ = false := hb0.fz
  have HE : Hid (Removed ⟨bq, bi, bp, cap, capP⟩ n m i0 (p + 1) L P w (put4 w1 w.heap.size 0 x)) := ⟨L', P', q_result hQ hq hi hb x, fr_result (((Fr.refl _ w).alloc _).trans hF) (Nat.le_refl _) x, hG⟩
  clear hb0 hQ hF hG
  go_wp2
  refine bodyPost_ret (v := .tuple #[.agg #[.int .i64 x.t, .int .u64 x.s, .int .u8 x.k, .int .i64 x.r], .bool true]) (by simp [results, Try.results19, go_sem, b00, b01, b02, b03]) rfl ⟨rfl, ?_⟩
  exact HE.out

end Go.Proofs.Qxb6614809a
