/-
  minHeap.set.
-/
import Derived.Test.Qxb6614809aMem
namespace Go.Proofs.Qxb6614809a
open Go.RowKit
set_option linter.unusedVariables false

theorem neqKey (w : World) : (binOp .neq 48 (.func (.func 17) #[] #[]) .nilFunc).run Try.prog w = .ok (.bool true) w := by kernel_rfl

set_option maxRecDepth 100000 in
set_option maxHeartbeats 1000000 in
theorem set_any (N : Nums) (i j n m : Nat) (L : Nat → Ev) (P : Nat → Int) (x : Ev) (w : World) (h : Q N w n L m P) (hin : i < n) (hkj : x.key + 1 = (j : Int)) (hjm : j < m) :
    Calls Try.prog 23 #[.pointer (some ⟨N.bq, 0, none⟩), .int .i64 i, .agg #[.int .i64 x.t, .int .u64 x.s, .int .u8 x.k, .int .i64 x.r]] w fun e w' => e = .returned (.tuple #[]) ∧ Q N w' n (upd L i x) m (upd P j i) ∧ Fr N w w' := by
  obtain ⟨bq, bi, bp, cap, capP⟩ := N
  obtain ⟨t, s, k, r⟩ := x
  have HK : Hid (keyI k r + 1 = (j : Int)) := hkj
  clear hkj
  have hqi : bq ≠ bi := h.qi
  have hqp : bq ≠ bp := h.qp
  have hip : bi ≠ bp := h.ip
  have hq : bq < w.heap.size := h.hq
  have hi : bi < w.heap.size := h.hi
  have hp : bp < w.heap.size := h.hp
  have c0 : w.cell? ⟨bq, 0, none⟩ = some (.slice (some ⟨bi, 0, none⟩) n cap) := h.c0
  have c2 : w.cell? ⟨bq, 2, none⟩ = some (.func (.func 17) #[] #[]) := h.c2
  have c3 : w.cell? ⟨bq, 3, none⟩ = some (.slice (some ⟨bp, 0, none⟩) m capP) := h.c3
  have d0 : w.cell? ⟨bi, i * 4, none⟩ = some (.int .i64 (L i).t) := (h.it i hin).1
  have d1 : w.cell? ⟨bi, i * 4 + 1, none⟩ = some (.int .u64 (L i).s) := (h.it i hin).2.1
  have d2 : w.cell? ⟨bi, i * 4 + 2, none⟩ = some (.int .u8 (L i).k) := (h.it i hin).2.2.1
  have d3 : w.cell? ⟨bi, i * 4 + 3, none⟩ = some (.int .i64 (L i).r) := (h.it i hin).2.2.2
  have f : ∀ o, w.frozen? ⟨bi, o, none⟩ = false := h.fi
  have hn4 : n ≤ 4096 := h.hn
  have hm4 : m ≤ 65536 := h.hm
  have hneq := neqKey
  have HQ := h
  replace HQ : Hid _ := HQ
  clear h
  have hcl : bq < w.heap.size + 1 := by omega
  go_enter Try.func23, Try.ntmps23
  go_wp2
  go_region
  refine ex_name (fun w1 => Q ⟨bq, bi, bp, cap, capP⟩ w1 n (upd L i ⟨t, s, k, r⟩) m P ∧ Fr ⟨bq, bi, bp, cap, capP⟩ w w1 ∧ Box w1 w.heap.size ⟨t, s, k, r⟩) ?_ ?_
  · exact ⟨((HQ.out.setItem hin ⟨t, s, k, r⟩).alloc _).drew, (((Fr.refl _ w).put4 (i * 4) ⟨t, s, k, r⟩).alloc _).drew, (Box.new (put4 w bi (i * 4) ⟨t, s, k, r⟩) ⟨t, s, k, r⟩ (put4_size w bi (i * 4) ⟨t, s, k, r⟩).symm).drew⟩
  · clear c0 c2 c3 d0 d1 d2 d3 f HQ hcl
    rintro w1 ⟨hQ1, hF1, hB⟩
    have hlt := hB.lt
    have x0 : w1.cell? ⟨w.heap.size, 0, none⟩ = some (.int .i64 t) := hB.c0
    have x1 : w1.cell? ⟨w.heap.size, 1, none⟩ = some (.int .u64 s) := hB.c1
    have x2 : w1.cell? ⟨w.heap.size, 2, none⟩ = some (.int .u8 k) := hB.c2
    have x3 : w1.cell? ⟨w.heap.size, 3, none⟩ = some (.int .i64 r) := hB.c3
    have c2 : w1.cell? ⟨bq, 2, none⟩ = some (.func (.func 17) #[] #[]) := hQ1.c2
    have c3 : w1.cell? ⟨bq, 3, none⟩ = some (.slice (some ⟨bp, 0, none⟩) m capP) := hQ1.c3
    have f : ∀ o, w1.frozen? ⟨bp, o, none⟩ = false := hQ1.fp
    have d4 : w1.cell? ⟨bp, j, none⟩ = some (.int .i64 (P j)) := hQ1.pl j hjm
    have hq1 : bq < w1.heap.size := hQ1.hq
    have hp1 : bp < w1.heap.size := hQ1.hp
    have HQ : Hid _ := hQ1
    have HF : Hid _ := hF1
    generalize w.heap.size = g at *
    clear hQ1 hF1 hB
    have hpq : bp ≠ bq := Ne.symm hqp
    have hpg : bp ≠ g := by omega
    obtain ⟨kk, hkk⟩ : ∃ kk, keyI k r = kk := ⟨_, rfl⟩
    have HKK : Hid (keyI k r = kk) := hkk
    have hkj : kk + 1 = (j : Int) := by rw [← hkk]; exact HK.out
    clear hkk
    have hkw : IntKind.i64.wrap (j : Int) = (j : Int) := by rw [IntKind.wrap_i64]; omega
    have hj0 : (0 : Int) ≤ (j : Int) := by omega
    have hjm' : (j : Int) < (m : Int) := by omega
    go_wp2
    go_region_held3 (fun w' => w'.cell? ⟨bq, 3, none⟩ = some (.slice (some ⟨bp, 0, none⟩) m capP) ∧ w'.cell? ⟨bq, 2, none⟩ = some (.func (.func 17) #[] #[]) ∧ w'.cell? ⟨g, 0, none⟩ = some (.int .i64 t) ∧ w'.cell? ⟨g, 1, none⟩ = some (.int .u64 s) ∧ w'.cell? ⟨g, 2, none⟩ = some (.int .u8 k) ∧ w'.cell? ⟨g, 3, none⟩ = some (.int .i64 r)) (go_keep)
      ((go_at_call 17; refine (key_any _ _ _ _ _).mono ?_; rintro e w1 ⟨rfl, rfl⟩; rw [HKK.out]))
    all_goals go_wp2
    go_end0
    exact ⟨rfl, ((HQ.out.setPlace hjm (i : Int)).alloc _).drew, ((HF.out.setCell (p := ⟨bp, j, none⟩) (.inr (.inr (.inl rfl))) _).alloc _).drew⟩

end Go.Proofs.Qxb6614809a
