/-
  FnCancelEndExact: what the walk is handed.
-/
import Derived.Test.Qxb6614809aMain1
namespace Go.Proofs.Qxb6614809a
open Go.RowKit
set_option linter.unusedVariables false

theorem Try.info2 : (Try.prog.info? 2).map (fun i => (i.zero, i.size, i.bytes)) = some (some (.int .i64 0), 1, 8) := by kernel_rfl
theorem Try.size2 : (Try.prog.info? 2).map (·.size) = some 1 := by kernel_rfl
theorem Try.info37 : (Try.prog.info? 37).map (fun i => (i.zero, i.size, i.bytes)) = some (some (.int .u64 0), 1, 8) := by kernel_rfl
theorem Try.size37 : (Try.prog.info? 37).map (·.size) = some 1 := by kernel_rfl
theorem Try.info5 : (Try.prog.info? 5).map (fun i => (i.zero, i.size, i.bytes)) = some (some (.int .u8 0), 1, 1) := by kernel_rfl
theorem Try.size5 : (Try.prog.info? 5).map (·.size) = some 1 := by kernel_rfl

theorem Ints.cell {k : IntKind} {w : World} {b off : Nat} {zs : List Int} (h : Ints k w (some ⟨b, off, none⟩) zs) {i : Nat} (hi : i < zs.length) : w.cell? ⟨b, off + i, none⟩ = some (.int k (zs.getD i 0)) := by
  obtain ⟨b', off', e, hc⟩ := h.at hi
  injection e with e
  injection e with e1 e2
  subst e1 e2
  exact hc i hi
theorem chain {a b c : World} (h : Below a.heap.size a b) (k : Below b.heap.size b c) : Below a.heap.size a c := h.trans (k.mono h.size)

/-- 'copy' where the source is not nil, its address a letter -/
theorem copy_run' (k : IntKind) (dT e : TypeId) (hu : Try.prog.underlying dT = some (.slice e)) (hs : (Try.prog.info? e).map (·.size) = some 1) (ao : Option Addr) (ha : ao.isNone = false) (cap n : Nat) (zs : List Int) (hz : zs.length = n) (w : World) (h : Ints k w ao zs) (z : Value) :
    ∃ w2, (Builtin.copy_ #[dT, dT] 3 #[.slice (some ⟨w.heap.size, 0, none⟩) n n, .slice ao n cap]).run Try.prog (w.alloc (.cells (madeCells #[z] n) e)) = .ok (goInt n) w2 ∧ Row k e w2 w.heap.size zs ∧ Below w.heap.size w w2 := by
  subst hz
  cases ao with
  | none => simp at ha
  | some ad => exact copy_run k dT e hu hs ad cap zs w h z
theorem Fr.below {N : Nums} {B : Nat} {w w' : World} (h : Fr N w w') (hB : B ≤ w.heap.size) (h1 : B ≤ N.bq) (h2 : B ≤ N.bi) (h3 : B ≤ N.bp) : Below B w w' :=
  ⟨h.os, h.tape, h.output, h.size, fun k hk => h.block k (by omega) (by omega) (by omega) (by omega)⟩

theorem cloneInt_any (a : Option Addr) (c m : Nat) (P : List Int) (w : World) (h : Ints .i64 w a P) (hl : P.length = m) (hm : m ≤ 65536) (hn : a = none → m = 0 ∧ c = 0) :
    Calls Try.prog 6 #[.slice a m c] w fun e w' => ∃ ap cp, e = .returned (.slice ap m cp) ∧ Below w.heap.size w w' ∧ (m = 0 ∨ (ap = some ⟨w.heap.size, 0, none⟩ ∧ Row .i64 3 w' w.heap.size P)) := by
  cases a with
  | none =>
    obtain ⟨rfl, rfl⟩ := hn rfl
    exact (cloneInt_nil w).mono fun e w' ⟨he, hw⟩ => ⟨none, 0, he, by rw [hw]; exact Below.refl _ _, .inl rfl⟩
  | some ad =>
    subst hl
    exact (cloneInt_some ad c P w h hm).mono fun e w' ⟨he, hr, hb⟩ => ⟨_, _, he, hb, .inr ⟨rfl, hr⟩⟩

theorem findEnd_n (a : Option Addr) (cap : Nat) (K : List Int) (a' : Option Addr) (cap' : Nat) (R : List Int) (p : Int) (n : Nat) (w : World) (h : Ints .u8 w a K) (h' : Ints .i64 w a' R) (hl : n ≤ 4096) (hK : K.length = n) (hR : R.length = n) :
    Calls Try.prog 7 #[.slice a n cap, .slice a' n cap', .int .i64 p] w fun e w' => (∃ j : Int, e = .returned (.int .i64 j) ∧ FE K R p j) ∧ w' = w := by
  have := findEnd_any a cap K a' cap' R p w h h' (by omega) (by omega)
  rw [hK, hR] at this
  exact this
theorem endIs_n (a : Option Addr) (cap : Nat) (A : List Int) (j n : Nat) (hj : j < n) (hl : n ≤ 4096) (hA : A.length = n) (w : World) (h : Ints .i64 w a A) :
    Calls Try.prog 12 #[.int .i64 (A.getD j 0), .bool true, .slice a n cap, .int .i64 j] w fun e w' => e = .returned (.bool true) ∧ w' = w := by
  have := endIs_yes a cap A j (by omega) (by omega) w h
  rw [hA] at this
  exact this
theorem findSeq_n (a : Option Addr) (cap : Nat) (zs : List Int) (j n : Nat) (w : World) (h : Ints .u64 w a zs) (hl : n ≤ 4096) (hz : zs.length = n) (hj : j < n) (hd : ∀ i j, i < n → j < n → zs.getD i 0 = zs.getD j 0 → i = j) :
    Calls Try.prog 15 #[.slice a n cap, .int .u64 (zs.getD j 0)] w fun e w' => e = .returned (.int .i64 j) ∧ w' = w := by
  have := findSeq_any a cap zs (zs.getD j 0) w h (by omega)
  rw [hz] at this
  refine this.mono fun e w' ⟨⟨j', he, hs⟩, hw⟩ => ⟨?_, hw⟩
  rcases hs with ⟨_, hn⟩ | ⟨i, rfl, hi, hi2, _⟩
  · exact absurd rfl (hn j hj)
  · rw [he, hd i j hi hj hi2]

theorem QV.val {A S K R P : List Int} (h : QV A S K R P) : Val A.length P.length (evAt A S K R) (fun j => P.getD j 0) := by
  refine ⟨?_, ?_, ?_, ?_⟩
  · intro j h0 hj
    exact (h.seen j hj).1 h0
  · intro i j hi hj hs
    rcases Nat.lt_trichotomy i j with h1 | h1 | h1
    · exact absurd hs ((h.seen j hj).2.1 i h1)
    · exact h1
    · exact absurd hs.symm ((h.seen i hi).2.1 j h1)
  · intro j hj hk
    exact (h.seen j hj).2.2 hk
  · intro k h1 h2
    exact h.plc k h1 h2

theorem NewQ.q {w w' : World} {n m bp cp : Nat} {A S K R P : List Int} (h : NewQ w w' n A S K R (.slice (some ⟨bp, 0, none⟩) m cp)) (hr : Row .i64 3 w bp P) (hP : P.length = m) (hn : n ≤ 4096) (hm : m ≤ 65536) :
    Q ⟨w.heap.size + 1, w.heap.size, bp, n, cp⟩ w' n (evAt A S K R) m (fun j => P.getD j 0) := by
  have hbp := hr.lt
  have hr' : Row .i64 3 w' bp P := by
    unfold Row
    rw [h.bel.block bp hbp]
    exact hr
  have hsz := h.sz
  refine ⟨?_, ?_, ?_, h.sz, ?_, hr'.lt, h.c0, h.c1, h.c2, h.c3, h.it, fun j hj => hr'.cell (by omega), h.fq, h.fi, hr'.frozen, hn, hm⟩
  · show w.heap.size + 1 ≠ w.heap.size; omega
  · show w.heap.size + 1 ≠ bp; omega
  · show w.heap.size ≠ bp; omega
  · show w.heap.size < _; omega

/-- the item at i, in whatever world the queue stands in -/
theorem item_q (N : Nums) (n m i : Nat) (L : Nat → Ev) (P : Nat → Int) (w w1 : World) (h : Q N w n L m P) (hb : Below w.heap.size w w1) (hi : i < n) :
    Calls Try.prog 13 #[.pointer (some ⟨N.bq, 0, none⟩), .int .i64 i] w1 fun e w' => e = .returned (.tuple #[.int .i64 (L i).t, .int .u64 (L i).s, .int .u8 (L i).k, .int .i64 (L i).r]) ∧ Below w.heap.size w w' := by
  have h1 : Q N w1 n L m P := h.of_blocks hb.size (fun k hk => hb.block k hk)
  exact (item_any N.bq N.bi n N.cap i (L i) w1 h1.hq h1.hi hi h.hn h1.c0 (h1.it i hi).1 (h1.it i hi).2.1 (h1.it i hi).2.2.1 (h1.it i hi).2.2.2).mono fun e w' ⟨he, hw⟩ => ⟨he, hb.trans (hw.mono hb.size)⟩

/-- the same of a queue as it was made (its place table may be nil) -/
theorem item_new {w w' w1 : World} {n : Nat} {A S K R : List Int} {vp : Value} (h : NewQ w w' n A S K R vp) (hb : Below w'.heap.size w' w1) (hn : n ≤ 4096) (i : Nat) (hi : i < n) :
    Calls Try.prog 13 #[.pointer (some ⟨w.heap.size + 1, 0, none⟩), .int .i64 i] w1 fun e w'' => e = .returned (.tuple #[.int .i64 (A.getD i 0), .int .u64 (S.getD i 0), .int .u8 (K.getD i 0), .int .i64 (R.getD i 0)]) ∧ Below w'.heap.size w' w'' := by
  have hsz := h.sz
  have hs2 := hb.size
  have c : ∀ b o, b < w'.heap.size → w1.cell? ⟨b, o, none⟩ = w'.cell? ⟨b, o, none⟩ := fun b o hbb => hb.cell (p := ⟨b, o, none⟩) hbb
  have hit := h.it i hi
  refine (item_any (w.heap.size + 1) w.heap.size n n i (evAt A S K R i) w1 (by omega) (by omega) hi hn ?_ ?_ ?_ ?_ ?_).mono fun e w'' ⟨he, hw⟩ => ⟨he, hb.trans (hw.mono hb.size)⟩
  · rw [c _ _ (by omega)]; exact h.c0
  · rw [c _ _ (by omega)]; exact hit.1
  · rw [c _ _ (by omega)]; exact hit.2.1
  · rw [c _ _ (by omega)]; exact hit.2.2.1
  · rw [c _ _ (by omega)]; exact hit.2.2.2

/-- no such end: the queue stays as it is -/
theorem cancel_no {w w' : World} {n m p cp bp : Nat} {A S K R P : List Int} {ap : Option Addr} (h : NewQ w w' n A S K R (.slice ap m cp)) (hq : QV A S K R P) (hP : P.length = m) (hm : m ≤ 65536) (hp : p < 9223372036854775807) (hr : m = 0 ∨ (ap = some ⟨bp, 0, none⟩ ∧ Row .i64 3 w bp P))
    (hno : ∀ i, i < K.length → ¬ (K.getD i 0 = 2 ∧ R.getD i 0 = (p : Int))) :
    Calls Try.prog 9 #[.pointer (some ⟨w.heap.size + 1, 0, none⟩), .int .i64 p] w' fun e w'' => e = .returned (.tuple #[.int .i64 0, .bool false]) ∧ Below w'.heap.size w' w'' := by
  have hsz := h.sz
  refine zzcancel_of (w.heap.size + 1) p 0 0 0 0 false w' (fun w'' => Below w'.heap.size w' w'') (fun w'' o hb => hb.alloc hb.size o) ?_
  by_cases hs : m ≤ p + 1
  · exact take_short (w.heap.size + 1) m cp p ap w' h.sz h.c3 hm hp hs
  · rcases hr with hr | ⟨rfl, hr⟩
    · omega
    · have hbp := hr.lt
      have hz := hq.plc (p + 1) (by omega) (by omega)
      have hc : w'.cell? ⟨bp, 0 + (p + 1), none⟩ = some (.int .i64 (P.getD (p + 1) 0)) := by
        rw [h.bel.cell (p := ⟨bp, 0 + (p + 1), none⟩) hbp, Nat.zero_add]
        exact hr.cell (by omega)
      refine take_none (w.heap.size + 1) m cp p bp 0 (P.getD (p + 1) 0) w' h.sz (by omega) h.c3 hm hp (by omega) hc ?_
      rcases hz with hz | ⟨z1, z2, z3, z4⟩
      · omega
      · exfalso
        refine hno (P.getD (p + 1) 0).toNat (by have := hq.lK; omega) ⟨z3, ?_⟩
        rw [z4]; omega

/-- the end at i0: it goes -/
theorem cancel_yes {w w' : World} {n m p cp bp i0 : Nat} {A S K R P : List Int} (h : NewQ w w' (n + 1) A S K R (.slice (some ⟨bp, 0, none⟩) m cp)) (hq : QV A S K R P) (hA : A.length = n + 1) (hP : P.length = m) (hn : n + 1 ≤ 4096) (hm : m ≤ 65536) (hr : Row .i64 3 w bp P)
    (hi : i0 < n + 1) (hk : K.getD i0 0 = 2) (hrr : R.getD i0 0 = (p : Int)) :
    Calls Try.prog 9 #[.pointer (some ⟨w.heap.size + 1, 0, none⟩), .int .i64 p] w' fun e w'' => e = .returned (.tuple #[.int .i64 (A.getD i0 0), .bool true]) ∧ Removed ⟨w.heap.size + 1, w.heap.size, bp, n + 1, cp⟩ n m i0 (p + 1) (evAt A S K R) (fun j => P.getD j 0) w' w'' := by
  have hv := hq.val
  rw [hA, hP] at hv
  obtain ⟨e1, e2, e3⟩ := hv.e i0 hi hk
  have hrv : (evAt A S K R i0).r = (p : Int) := hrr
  rw [hrv] at e2 e3
  have e4 : ((p : Int) + 1).toNat = p + 1 := by omega
  rw [e4] at e3
  refine zzcancel_of (w.heap.size + 1) p (evAt A S K R i0).t (evAt A S K R i0).s (evAt A S K R i0).k (evAt A S K R i0).r true w' _ (fun w'' o hb => hb.alloc o) ?_
  exact take_yes ⟨w.heap.size + 1, w.heap.size, bp, n + 1, cp⟩ i0 n m p (evAt A S K R) (fun j => P.getD j 0) w' hv (h.q hr hP hn hm) hi (Nat.le_refl _) (by omega) hk hrv e3

end Go.Proofs.Qxb6614809a
