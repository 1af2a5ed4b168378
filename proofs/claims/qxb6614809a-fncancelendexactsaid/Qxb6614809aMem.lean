/-
  The queue in memory: what its blocks hold, and what may have turned.
-/
import Derived.Test.Qxb6614809aEv
import Derived.Deep.RegionHeld3
namespace Go.Proofs.Qxb6614809a
open Go.RowKit
set_option linter.unusedVariables false

def upd {α : Type} (L : Nat → α) (i : Nat) (x : α) : Nat → α := fun j => if j = i then x else L j
theorem upd_same {α : Type} (L : Nat → α) (i : Nat) (x : α) : upd L i x i = x := by simp [upd]
theorem upd_other {α : Type} (L : Nat → α) (i j : Nat) (x : α) (h : j ≠ i) : upd L i x j = L j := by simp [upd, h]

structure Nums where
  bq : Nat
  bi : Nat
  bp : Nat
  cap : Nat
  capP : Nat

/-- The queue's box, its items, its places. -/
structure Q (N : Nums) (w : World) (n : Nat) (L : Nat → Ev) (m : Nat) (P : Nat → Int) : Prop where
  qi : N.bq ≠ N.bi
  qp : N.bq ≠ N.bp
  ip : N.bi ≠ N.bp
  hq : N.bq < w.heap.size
  hi : N.bi < w.heap.size
  hp : N.bp < w.heap.size
  c0 : w.cell? ⟨N.bq, 0, none⟩ = some (.slice (some ⟨N.bi, 0, none⟩) n N.cap)
  c1 : w.cell? ⟨N.bq, 1, none⟩ = some (.func (.func 16) #[] #[])
  c2 : w.cell? ⟨N.bq, 2, none⟩ = some (.func (.func 17) #[] #[])
  c3 : w.cell? ⟨N.bq, 3, none⟩ = some (.slice (some ⟨N.bp, 0, none⟩) m N.capP)
  it : ∀ j, j < n → w.cell? ⟨N.bi, j * 4, none⟩ = some (.int .i64 (L j).t) ∧ w.cell? ⟨N.bi, j * 4 + 1, none⟩ = some (.int .u64 (L j).s) ∧ w.cell? ⟨N.bi, j * 4 + 2, none⟩ = some (.int .u8 (L j).k) ∧ w.cell? ⟨N.bi, j * 4 + 3, none⟩ = some (.int .i64 (L j).r)
  pl : ∀ j, j < m → w.cell? ⟨N.bp, j, none⟩ = some (.int .i64 (P j))
  fq : ∀ o, w.frozen? ⟨N.bq, o, none⟩ = false
  fi : ∀ o, w.frozen? ⟨N.bi, o, none⟩ = false
  fp : ∀ o, w.frozen? ⟨N.bp, o, none⟩ = false
  hn : n ≤ 4096
  hm : m ≤ 65536

/-- Nothing but the three blocks has turned. -/
structure Fr (N : Nums) (w w' : World) : Prop where
  os : w'.os = w.os
  tape : w'.tape = w.tape
  output : w'.output = w.output
  size : w.heap.size ≤ w'.heap.size
  block : ∀ k, k < w.heap.size → k ≠ N.bq → k ≠ N.bi → k ≠ N.bp → w'.heap[k]? = w.heap[k]?

theorem Fr.refl (N : Nums) (w : World) : Fr N w w := ⟨rfl, rfl, rfl, Nat.le_refl _, fun _ _ _ _ _ => rfl⟩
theorem Fr.trans {N : Nums} {a b c : World} (h : Fr N a b) (k : Fr N b c) : Fr N a c :=
  ⟨k.os.trans h.os, k.tape.trans h.tape, k.output.trans h.output, Nat.le_trans h.size k.size, fun i hi h1 h2 h3 => (k.block i (Nat.lt_of_lt_of_le hi h.size) h1 h2 h3).trans (h.block i hi h1 h2 h3)⟩
theorem Fr.drew {N : Nums} {a w : World} (h : Fr N a w) : Fr N a w.drew := ⟨h.os, h.tape, h.output, h.size, h.block⟩
theorem Fr.alloc {N : Nums} {a w : World} (h : Fr N a w) (o : Obj) : Fr N a (w.alloc o) :=
  h.trans ⟨rfl, rfl, rfl, by simp, fun k hk _ _ _ => Below.heap_alloc _ _ _ hk⟩
theorem Fr.setCell {N : Nums} {a w : World} (h : Fr N a w) {p : Addr} (hp : p.block = N.bq ∨ p.block = N.bi ∨ p.block = N.bp ∨ a.heap.size ≤ p.block) (u : Value) : Fr N a (w.setCell p u) := by
  refine ⟨h.os, h.tape, h.output, Nat.le_trans h.size (by simp [World.setCell]), fun k hk h1 h2 h3 => ?_⟩
  rw [Below.heap_setCell _ _ _ _ (by omega)]
  exact h.block k hk h1 h2 h3
theorem Fr.cell {N : Nums} {w w' : World} (h : Fr N w w') {b o : Nat} (hb : b < w.heap.size) (h1 : b ≠ N.bq) (h2 : b ≠ N.bi) (h3 : b ≠ N.bp) : w'.cell? ⟨b, o, none⟩ = w.cell? ⟨b, o, none⟩ :=
  World.cell?_of_block (w := w) (h.block b hb h1 h2 h3)
theorem Fr.frozen {N : Nums} {w w' : World} (h : Fr N w w') {b o : Nat} (hb : b < w.heap.size) (h1 : b ≠ N.bq) (h2 : b ≠ N.bi) (h3 : b ≠ N.bp) : w'.frozen? ⟨b, o, none⟩ = w.frozen? ⟨b, o, none⟩ :=
  World.frozen?_of_block (w := w) (h.block b hb h1 h2 h3)

/-- A world that reads alike at the three blocks. -/
theorem Q.of_blocks {N : Nums} {w w' : World} {n m : Nat} {L : Nat → Ev} {P : Nat → Int} (h : Q N w n L m P) (hs : w.heap.size ≤ w'.heap.size) (hb : ∀ k, k < w.heap.size → w'.heap[k]? = w.heap[k]?) : Q N w' n L m P := by
  have c : ∀ b o, b < w.heap.size → w'.cell? ⟨b, o, none⟩ = w.cell? ⟨b, o, none⟩ := fun b o hbb => World.cell?_of_block (w := w) (hb b hbb)
  have f : ∀ b o, b < w.heap.size → w'.frozen? ⟨b, o, none⟩ = w.frozen? ⟨b, o, none⟩ := fun b o hbb => World.frozen?_of_block (w := w) (hb b hbb)
  refine ⟨h.qi, h.qp, h.ip, Nat.lt_of_lt_of_le h.hq hs, Nat.lt_of_lt_of_le h.hi hs, Nat.lt_of_lt_of_le h.hp hs, ?_, ?_, ?_, ?_, ?_, ?_, ?_, ?_, ?_, h.hn, h.hm⟩
  · rw [c _ _ h.hq]; exact h.c0
  · rw [c _ _ h.hq]; exact h.c1
  · rw [c _ _ h.hq]; exact h.c2
  · rw [c _ _ h.hq]; exact h.c3
  · intro j hj; rw [c _ _ h.hi, c _ _ h.hi, c _ _ h.hi, c _ _ h.hi]; exact h.it j hj
  · intro j hj; rw [c _ _ h.hp]; exact h.pl j hj
  · intro o; rw [f _ _ h.hq]; exact h.fq o
  · intro o; rw [f _ _ h.hi]; exact h.fi o
  · intro o; rw [f _ _ h.hp]; exact h.fp o
theorem Q.alloc {N : Nums} {w : World} {n m : Nat} {L : Nat → Ev} {P : Nat → Int} (h : Q N w n L m P) (o : Obj) : Q N (w.alloc o) n L m P :=
  h.of_blocks (by simp) fun k hk => Below.heap_alloc _ _ _ hk
theorem Q.drew {N : Nums} {w : World} {n m : Nat} {L : Nat → Ev} {P : Nat → Int} (h : Q N w n L m P) : Q N w.drew n L m P :=
  h.of_blocks (Nat.le_refl _) fun k hk => rfl
/-- a store elsewhere -/
theorem Q.setOther {N : Nums} {w : World} {n m : Nat} {L : Nat → Ev} {P : Nat → Int} (h : Q N w n L m P) {a : Addr} (h1 : N.bq ≠ a.block) (h2 : N.bi ≠ a.block) (h3 : N.bp ≠ a.block) (v : Value) : Q N (w.setCell a v) n L m P := by
  have c : ∀ b o, b ≠ a.block → (w.setCell a v).cell? ⟨b, o, none⟩ = w.cell? ⟨b, o, none⟩ := fun b o hbb => World.cell?_setCell_other w a _ v (fun e => hbb (by rw [e]))
  have sz : (w.setCell a v).heap.size = w.heap.size := by simp [World.setCell]
  refine ⟨h.qi, h.qp, h.ip, by rw [sz]; exact h.hq, by rw [sz]; exact h.hi, by rw [sz]; exact h.hp, ?_, ?_, ?_, ?_, ?_, ?_, ?_, ?_, ?_, h.hn, h.hm⟩
  · rw [c _ _ h1]; exact h.c0
  · rw [c _ _ h1]; exact h.c1
  · rw [c _ _ h1]; exact h.c2
  · rw [c _ _ h1]; exact h.c3
  · intro j hj; rw [c _ _ h2, c _ _ h2, c _ _ h2, c _ _ h2]; exact h.it j hj
  · intro j hj; rw [c _ _ h3]; exact h.pl j hj
  · intro o; rw [World.frozen?_setCell]; exact h.fq o
  · intro o; rw [World.frozen?_setCell]; exact h.fi o
  · intro o; rw [World.frozen?_setCell]; exact h.fp o
/-- a place is written -/
theorem Q.setPlace {N : Nums} {w : World} {n m : Nat} {L : Nat → Ev} {P : Nat → Int} (h : Q N w n L m P) {j : Nat} (hj : j < m) (z : Int) : Q N (w.setCell ⟨N.bp, j, none⟩ (.int .i64 z)) n L m (upd P j z) := by
  have c : ∀ b o, b ≠ N.bp → (w.setCell ⟨N.bp, j, none⟩ (.int .i64 z)).cell? ⟨b, o, none⟩ = w.cell? ⟨b, o, none⟩ := fun b o hbb => World.cell?_setCell_other w _ _ _ (fun e => hbb (by injection e with e1; exact e1.symm))
  have sz : (w.setCell ⟨N.bp, j, none⟩ (.int .i64 z)).heap.size = w.heap.size := by simp [World.setCell]
  refine ⟨h.qi, h.qp, h.ip, by rw [sz]; exact h.hq, by rw [sz]; exact h.hi, by rw [sz]; exact h.hp, ?_, ?_, ?_, ?_, ?_, ?_, ?_, ?_, ?_, h.hn, h.hm⟩
  · rw [c _ _ h.qp]; exact h.c0
  · rw [c _ _ h.qp]; exact h.c1
  · rw [c _ _ h.qp]; exact h.c2
  · rw [c _ _ h.qp]; exact h.c3
  · intro i hi; rw [c _ _ h.ip, c _ _ h.ip, c _ _ h.ip, c _ _ h.ip]; exact h.it i hi
  · intro i hi
    by_cases e : i = j
    · subst e; rw [upd_same]; exact World.cell?_setCell_same w _ _ (h.pl i hi)
    · rw [upd_other _ _ _ _ e, World.cell?_setCell_other w _ _ _ (fun e2 => e (by injection e2 with _ e3; exact e3.symm))]; exact h.pl i hi
  · intro o; rw [World.frozen?_setCell]; exact h.fq o
  · intro o; rw [World.frozen?_setCell]; exact h.fi o
  · intro o; rw [World.frozen?_setCell]; exact h.fp o
/-- the four cells of an item are written -/
def put4 (w : World) (b o : Nat) (x : Ev) : World := (((w.setCell ⟨b, o, none⟩ (.int .i64 x.t)).setCell ⟨b, o + 1, none⟩ (.int .u64 x.s)).setCell ⟨b, o + 2, none⟩ (.int .u8 x.k)).setCell ⟨b, o + 3, none⟩ (.int .i64 x.r)
theorem put4_other (w : World) (b o : Nat) (x : Ev) (b' o' : Nat) (h : b' ≠ b ∨ (o' < o ∨ o + 4 ≤ o')) : (put4 w b o x).cell? ⟨b', o', none⟩ = w.cell? ⟨b', o', none⟩ := by
  have ne : ∀ i, o ≤ i → i < o + 4 → (⟨b, i, none⟩ : Addr) ≠ ⟨b', o', none⟩ := fun i hi hi' e => by
    injection e with e1 e2
    rcases h with h | h
    · exact h e1.symm
    · omega
  unfold put4
  rw [World.cell?_setCell_other _ _ _ _ (ne (o + 3) (by omega) (by omega)), World.cell?_setCell_other _ _ _ _ (ne (o + 2) (by omega) (by omega)), World.cell?_setCell_other _ _ _ _ (ne (o + 1) (by omega) (by omega)), World.cell?_setCell_other _ _ _ _ (ne o (by omega) (by omega))]
theorem put4_same (w : World) (b o : Nat) (x : Ev) (h : ∀ i, i < 4 → ∃ v, w.cell? ⟨b, o + i, none⟩ = some v) :
    (put4 w b o x).cell? ⟨b, o, none⟩ = some (.int .i64 x.t) ∧ (put4 w b o x).cell? ⟨b, o + 1, none⟩ = some (.int .u64 x.s) ∧ (put4 w b o x).cell? ⟨b, o + 2, none⟩ = some (.int .u8 x.k) ∧ (put4 w b o x).cell? ⟨b, o + 3, none⟩ = some (.int .i64 x.r) := by
  have ne : ∀ i j, i ≠ j → (⟨b, i, none⟩ : Addr) ≠ ⟨b, j, none⟩ := fun i j hi e => by injection e with e1 e2; omega
  obtain ⟨v0, h0⟩ := h 0 (by omega)
  obtain ⟨v1, h1⟩ := h 1 (by omega)
  obtain ⟨v2, h2⟩ := h 2 (by omega)
  obtain ⟨v3, h3⟩ := h 3 (by omega)
  unfold put4
  refine ⟨?_, ?_, ?_, ?_⟩
  · rw [World.cell?_setCell_other _ _ _ _ (ne (o + 3) o (by omega)), World.cell?_setCell_other _ _ _ _ (ne (o + 2) o (by omega)), World.cell?_setCell_other _ _ _ _ (ne (o + 1) o (by omega))]
    exact World.cell?_setCell_same _ _ _ h0
  · rw [World.cell?_setCell_other _ _ _ _ (ne (o + 3) (o + 1) (by omega)), World.cell?_setCell_other _ _ _ _ (ne (o + 2) (o + 1) (by omega))]
    exact World.cell?_setCell_same _ _ _ (by rw [World.cell?_setCell_other _ _ _ _ (ne o (o + 1) (by omega))]; exact h1)
  · rw [World.cell?_setCell_other _ _ _ _ (ne (o + 3) (o + 2) (by omega))]
    exact World.cell?_setCell_same _ _ _ (by rw [World.cell?_setCell_other _ _ _ _ (ne (o + 1) (o + 2) (by omega)), World.cell?_setCell_other _ _ _ _ (ne o (o + 2) (by omega))]; exact h2)
  · exact World.cell?_setCell_same _ _ _ (by rw [World.cell?_setCell_other _ _ _ _ (ne (o + 2) (o + 3) (by omega)), World.cell?_setCell_other _ _ _ _ (ne (o + 1) (o + 3) (by omega)), World.cell?_setCell_other _ _ _ _ (ne o (o + 3) (by omega))]; exact h3)
theorem put4_frozen (w : World) (b o : Nat) (x : Ev) (a : Addr) : (put4 w b o x).frozen? a = w.frozen? a := by unfold put4; rw [World.frozen?_setCell, World.frozen?_setCell, World.frozen?_setCell, World.frozen?_setCell]
theorem put4_size (w : World) (b o : Nat) (x : Ev) : (put4 w b o x).heap.size = w.heap.size := by simp [put4, World.setCell]
theorem Q.setItem {N : Nums} {w : World} {n m : Nat} {L : Nat → Ev} {P : Nat → Int} (h : Q N w n L m P) {j : Nat} (hj : j < n) (x : Ev) : Q N (put4 w N.bi (j * 4) x) n (upd L j x) m P := by
  have c : ∀ b o, b ≠ N.bi → (put4 w N.bi (j * 4) x).cell? ⟨b, o, none⟩ = w.cell? ⟨b, o, none⟩ := fun b o hbb => put4_other _ _ _ _ _ _ (.inl hbb)
  have sz := put4_size w N.bi (j * 4) x
  refine ⟨h.qi, h.qp, h.ip, by rw [sz]; exact h.hq, by rw [sz]; exact h.hi, by rw [sz]; exact h.hp, ?_, ?_, ?_, ?_, ?_, ?_, ?_, ?_, ?_, h.hn, h.hm⟩
  · rw [c _ _ h.qi]; exact h.c0
  · rw [c _ _ h.qi]; exact h.c1
  · rw [c _ _ h.qi]; exact h.c2
  · rw [c _ _ h.qi]; exact h.c3
  · intro i hi
    by_cases e : i = j
    · subst e
      rw [upd_same]
      obtain ⟨e0, e1, e2, e3⟩ := h.it i hi
      exact put4_same _ _ _ _ fun a ha => by
        match a, ha with
        | 0, _ => exact ⟨_, e0⟩
        | 1, _ => exact ⟨_, e1⟩
        | 2, _ => exact ⟨_, e2⟩
        | 3, _ => exact ⟨_, e3⟩
    · rw [upd_other _ _ _ _ e]
      rw [put4_other _ _ _ _ _ _ (.inr (by omega)), put4_other _ _ _ _ _ _ (.inr (by omega)), put4_other _ _ _ _ _ _ (.inr (by omega)), put4_other _ _ _ _ _ _ (.inr (by omega))]
      exact h.it i hi
  · intro i hi; rw [c _ _ (Ne.symm h.ip)]; exact h.pl i hi
  · intro o; rw [put4_frozen]; exact h.fq o
  · intro o; rw [put4_frozen]; exact h.fi o
  · intro o; rw [put4_frozen]; exact h.fp o
theorem Fr.put4 {N : Nums} {a w : World} (h : Fr N a w) (o : Nat) (x : Ev) : Fr N a (put4 w N.bi o x) :=
  (((h.setCell (.inr (.inl rfl)) _).setCell (.inr (.inl rfl)) _).setCell (.inr (.inl rfl)) _).setCell (.inr (.inl rfl)) _

/-- a new box of an event -/
structure Box (w : World) (g : Nat) (x : Ev) : Prop where
  lt : g < w.heap.size
  c0 : w.cell? ⟨g, 0, none⟩ = some (.int .i64 x.t)
  c1 : w.cell? ⟨g, 1, none⟩ = some (.int .u64 x.s)
  c2 : w.cell? ⟨g, 2, none⟩ = some (.int .u8 x.k)
  c3 : w.cell? ⟨g, 3, none⟩ = some (.int .i64 x.r)
  fz : ∀ o, w.frozen? ⟨g, o, none⟩ = false
theorem Box.new (w : World) (x : Ev) {g : Nat} (hg : g = w.heap.size) : Box (w.alloc (.cells #[.int .i64 x.t, .int .u64 x.s, .int .u8 x.k, .int .i64 x.r] 46)) g x := by
  subst hg
  refine ⟨by simp, by simp, by simp, by simp, by simp, fun o => by simp⟩
theorem Box.drew {w : World} {g : Nat} {x : Ev} (h : Box w g x) : Box w.drew g x := ⟨h.lt, h.c0, h.c1, h.c2, h.c3, h.fz⟩
theorem Box.alloc {w : World} {g : Nat} {x : Ev} (h : Box w g x) (o : Obj) : Box (w.alloc o) g x := by
  have c : ∀ o', (w.alloc o).cell? ⟨g, o', none⟩ = w.cell? ⟨g, o', none⟩ := fun o' => World.cell?_of_block (w := w) (Below.heap_alloc _ _ _ h.lt)
  have f : ∀ o', (w.alloc o).frozen? ⟨g, o', none⟩ = w.frozen? ⟨g, o', none⟩ := fun o' => World.frozen?_of_block (w := w) (Below.heap_alloc _ _ _ h.lt)
  exact ⟨Nat.lt_of_lt_of_le h.lt (by simp), by rw [c]; exact h.c0, by rw [c]; exact h.c1, by rw [c]; exact h.c2, by rw [c]; exact h.c3, fun o' => by rw [f]; exact h.fz o'⟩
theorem Box.fr {N : Nums} {w w' : World} {g : Nat} {x : Ev} (h : Box w g x) (hf : Fr N w w') (h1 : g ≠ N.bq) (h2 : g ≠ N.bi) (h3 : g ≠ N.bp) : Box w' g x :=
  ⟨Nat.lt_of_lt_of_le h.lt hf.size, by rw [hf.cell h.lt h1 h2 h3]; exact h.c0, by rw [hf.cell h.lt h1 h2 h3]; exact h.c1, by rw [hf.cell h.lt h1 h2 h3]; exact h.c2, by rw [hf.cell h.lt h1 h2 h3]; exact h.c3, fun o => by rw [hf.frozen h.lt h1 h2 h3]; exact h.fz o⟩
/-- the world under a name -/
theorem ex_name {E : Exit → Act → World → Prop} {x : Exit} {a : Act} {W : World} (R : World → Prop) (hR : R W) (h : ∀ w1, R w1 → E x a w1) : E x a W := h W hR
theorem wp_name {P : Program} {c : Code} {K : Exit → Act → World → Prop} {a : Act} {W : World} (R : World → Prop) (hR : R W) (h : ∀ w1, R w1 → Code.wp P c K a w1) : Code.wp P c K a W := h W hR

end Go.Proofs.Qxb6614809a
