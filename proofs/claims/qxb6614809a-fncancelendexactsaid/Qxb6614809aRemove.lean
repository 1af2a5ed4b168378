/-
  minHeap.remove.
-/
import Derived.Test.Qxb6614809aDown
namespace Go.Proofs.Qxb6614809a
open Go.RowKit
set_option linter.unusedVariables false

theorem upd_self {α : Type} (L : Nat → α) (i : Nat) : upd L i (L i) = L := by
  funext j
  unfold upd
  split
  · rename_i h; rw [h]
  · rfl
/-- the items' header is cut by one -/
theorem Q.setTop {N : Nums} {w : World} {n m : Nat} {L : Nat → Ev} {P : Nat → Int} (h : Q N w (n + 1) L m P) : Q N (w.setCell ⟨N.bq, 0, none⟩ (.slice (some ⟨N.bi, 0, none⟩) n N.cap)) n L m P := by
  have c : ∀ b o, b ≠ N.bq → (w.setCell ⟨N.bq, 0, none⟩ (.slice (some ⟨N.bi, 0, none⟩) n N.cap)).cell? ⟨b, o, none⟩ = w.cell? ⟨b, o, none⟩ := fun b o hbb => World.cell?_setCell_other w _ _ _ (fun e => hbb (by injection e with e1; exact e1.symm))
  have c' : ∀ o, o ≠ 0 → (w.setCell ⟨N.bq, 0, none⟩ (.slice (some ⟨N.bi, 0, none⟩) n N.cap)).cell? ⟨N.bq, o, none⟩ = w.cell? ⟨N.bq, o, none⟩ := fun o hbb => World.cell?_setCell_other w _ _ _ (fun e => hbb (by injection e with _ e1; exact e1.symm))
  have sz : (w.setCell ⟨N.bq, 0, none⟩ (.slice (some ⟨N.bi, 0, none⟩) n N.cap)).heap.size = w.heap.size := by simp [World.setCell]
  refine ⟨h.qi, h.qp, h.ip, by rw [sz]; exact h.hq, by rw [sz]; exact h.hi, by rw [sz]; exact h.hp, ?_, ?_, ?_, ?_, ?_, ?_, ?_, ?_, ?_, by have := h.hn; omega, h.hm⟩
  · exact World.cell?_setCell_same w _ _ h.c0
  · rw [c' _ (by omega)]; exact h.c1
  · rw [c' _ (by omega)]; exact h.c2
  · rw [c' _ (by omega)]; exact h.c3
  · intro i hi; rw [c _ _ (Ne.symm h.qi), c _ _ (Ne.symm h.qi), c _ _ (Ne.symm h.qi), c _ _ (Ne.symm h.qi)]; exact h.it i (by omega)
  · intro i hi; rw [c _ _ (Ne.symm h.qp)]; exact h.pl i hi
  · intro o; rw [World.frozen?_setCell]; exact h.fq o
  · intro o; rw [World.frozen?_setCell]; exact h.fi o
  · intro o; rw [World.frozen?_setCell]; exact h.fp o
theorem Box.setCell {w : World} {g : Nat} {x : Ev} (h : Box w g x) {a : Addr} (ha : a.block ≠ g) (v : Value) : Box (w.setCell a v) g x := by
  have c : ∀ o, (w.setCell a v).cell? ⟨g, o, none⟩ = w.cell? ⟨g, o, none⟩ := fun o => World.cell?_setCell_other w _ _ _ (fun e => ha (by rw [e]))
  exact ⟨by simp [World.setCell]; exact h.lt, by rw [c]; exact h.c0, by rw [c]; exact h.c1, by rw [c]; exact h.c2, by rw [c]; exact h.c3, fun o => by rw [World.frozen?_setCell]; exact h.fz o⟩
theorem Box.put4 {w : World} {g : Nat} {x : Ev} (h : Box w g x) {b : Nat} (hb : b ≠ g) (o : Nat) (y : Ev) : Box (put4 w b o y) g x :=
  (((h.setCell hb _).setCell hb _).setCell hb _).setCell hb _

def evV (x : Ev) : Value := .agg #[.int .i64 x.t, .int .u64 x.s, .int .u8 x.k, .int .i64 x.r]

/-- what stands behind remove -/
def Removed (N : Nums) (n m i0 q : Nat) (L : Nat → Ev) (P : Nat → Int) (w w' : World) : Prop := ∃ L' P', Q N w' n L' m P' ∧ Fr N w w' ∧ Gone n m i0 q L P L' P'

theorem Removed.last {N : Nums} {n m q : Nat} {L : Nat → Ev} {P : Nat → Int} {w w' : World} (hv : Val (n + 1) m L P) (hk : (L n).k = 2) (hq : (L n).r + 1 = (q : Int)) (h : Q N w' n L m (upd P q (-1))) (hF : Fr N w w') : Removed N n m n q L P w w' :=
  ⟨_, _, h, hF, (St.startLast hv hk hq).gone hv (fun j h1 h2 => hv.hp j h1 (by omega)) (by omega) hk hq⟩
theorem Removed.of {N : Nums} {n m i0 q : Nat} {L : Nat → Ev} {P : Nat → Int} {w w1 w2 w3 : World} (hv : Val (n + 1) m L P) (hi : i0 < n + 1) (hk : (L i0).k = 2) (hq : (L i0).r + 1 = (q : Int)) (h : Sifted N (n + 1) i0 m n L w1 w2) (hF : Fr N w w1) (hQ : ∀ L' P', Q N w2 n L' m P' → Q N w3 n L' m P') (hF3 : Fr N w2 w3) : Removed N n m i0 q L P w w3 := by
  obtain ⟨L', P', a, b, c, d⟩ := h
  exact ⟨L', P', hQ _ _ a, (hF.trans b).trans hF3, c.gone hv d hi hk hq⟩

/-- the state inside remove -/
structure RS (N : Nums) (n m : Nat) (L : Nat → Ev) (P : Nat → Int) (x y : Ev) (g : Nat) (w w1 : World) : Prop where
  q : Q N w1 n L m P
  f : Fr N w w1
  b0 : Box w1 g ⟨0, 0, 0, 0⟩
  b1 : Box w1 (g + 1) x
  b2 : Box w1 (g + 1 + 1) y
section
variable {N : Nums} {n m : Nat} {L : Nat → Ev} {P : Nat → Int} {x y : Ev} {g : Nat} {w w1 w2 : World}
theorem RS.alloc (h : RS N n m L P x y g w w1) (o : Obj) : RS N n m L P x y g w (w1.alloc o) := ⟨h.q.alloc o, h.f.alloc o, h.b0.alloc o, h.b1.alloc o, h.b2.alloc o⟩
theorem RS.drew (h : RS N n m L P x y g w w1) : RS N n m L P x y g w w1.drew := ⟨h.q.drew, h.f.drew, h.b0.drew, h.b1.drew, h.b2.drew⟩
theorem RS.drewN (h : RS N n m L P x y g w w1) (k : Nat) : RS N n m L P x y g w (w1.drewN k) := ⟨h.q.drewN k, h.f.drewN k, h.b0.drewN k, h.b1.drewN k, h.b2.drewN k⟩
theorem RS.place (h : RS N n m L P x y g w w1) (hb : N.bp < g) {j : Nat} (hj : j < m) (z : Int) : RS N n m L (upd P j z) x y g w (w1.setCell ⟨N.bp, j, none⟩ (.int .i64 z)) :=
  ⟨h.q.setPlace hj z, h.f.setCell (.inr (.inr (.inl rfl))) _, h.b0.setCell (by show N.bp ≠ g; omega) _, h.b1.setCell (by show N.bp ≠ g + 1; omega) _, h.b2.setCell (by show N.bp ≠ g + 1 + 1; omega) _⟩
theorem RS.item (h : RS N n m L P x y g w w1) (hb : N.bi < g) {j : Nat} (hj : j < n) (z : Ev) : RS N n m (upd L j z) P x y g w (put4 w1 N.bi (j * 4) z) :=
  ⟨h.q.setItem hj z, h.f.put4 _ _, h.b0.put4 (by omega) _ _, h.b1.put4 (by omega) _ _, h.b2.put4 (by omega) _ _⟩
theorem RS.start (h : Q N w (n + 1) L m P) (x y : Ev) : RS N n m L P x y w.heap.size w ((((w.setCell ⟨N.bq, 0, none⟩ (.slice (some ⟨N.bi, 0, none⟩) n N.cap)).alloc (.cells #[.int .i64 0, .int .u64 0, .int .u8 0, .int .i64 0] 46)).alloc
    (.cells #[.int .i64 x.t, .int .u64 x.s, .int .u8 x.k, .int .i64 x.r] 46)).alloc (.cells #[.int .i64 y.t, .int .u64 y.s, .int .u8 y.k, .int .i64 y.r] 46)) := by
  have sz : (w.setCell ⟨N.bq, 0, none⟩ (.slice (some ⟨N.bi, 0, none⟩) n N.cap)).heap.size = w.heap.size := by simp [World.setCell]
  refine ⟨((h.setTop.alloc _).alloc _).alloc _, ((((Fr.refl N w).setCell (.inl rfl) _).alloc _).alloc _).alloc _, ((Box.new _ ⟨0, 0, 0, 0⟩ sz.symm).alloc _).alloc _, (Box.new _ x ?_).alloc _, Box.new _ y ?_⟩
  · simp [sz]
  · simp [sz]
theorem q_result (h : Q N w1 n L m P) (h1 : N.bq < g) (h2 : N.bi < g) (h3 : N.bp < g) (x : Ev) : Q N (put4 w1 g 0 x) n L m P :=
  (((h.setOther (a := ⟨g, 0, none⟩) (by show N.bq ≠ g; omega) (by show N.bi ≠ g; omega) (by show N.bp ≠ g; omega) _).setOther (a := ⟨g, 0 + 1, none⟩) (by show N.bq ≠ g; omega) (by show N.bi ≠ g; omega) (by show N.bp ≠ g; omega) _).setOther (a := ⟨g, 0 + 2, none⟩) (by show N.bq ≠ g; omega) (by show N.bi ≠ g; omega) (by show N.bp ≠ g; omega) _).setOther (a := ⟨g, 0 + 3, none⟩) (by show N.bq ≠ g; omega) (by show N.bi ≠ g; omega) (by show N.bp ≠ g; omega) _
theorem fr_result (h : Fr N w w1) (hg : w.heap.size ≤ g) (x : Ev) : Fr N w (put4 w1 g 0 x) :=
  (((h.setCell (.inr (.inr (.inr hg))) _).setCell (.inr (.inr (.inr hg))) _).setCell (.inr (.inr (.inr hg))) _).setCell (.inr (.inr (.inr hg))) _
theorem Removed.up {q i0 : Nat} {w3 : World} (hv : Val (n + 1) m L P) (hi : i0 < n + 1) (hk : (L i0).k = 2) (hq : (L i0).r + 1 = (q : Int)) (h : Sifted N (n + 1) i0 m n L w1 w2) (hF : Fr N w w1) (hg : w.heap.size = g) (h1 : N.bq < g) (h2 : N.bi < g) (h3 : N.bp < g) : Removed N n m i0 q L P w (put4 w2 g 0 x) := by
  obtain ⟨L', P', a, b, c, d⟩ := h
  exact ⟨L', P', q_result a h1 h2 h3 x, fr_result (hF.trans b) (by omega) x, c.gone hv d hi hk hq⟩
end

set_option maxRecDepth 100000 in
set_option maxHeartbeats 2000000 in
theorem remove_any (N : Nums) (i0 n m q : Nat) (L : Nat → Ev) (P : Nat → Int) (w : World) (hv : Val (n + 1) m L P) (h : Q N w (n + 1) L m P) (hin : i0 < n + 1) (hcap : n + 1 ≤ N.cap) (hk2 : (L i0).k = 2) (hrq : (L i0).r + 1 = (q : Int)) :
    Calls Try.prog 20 #[.pointer (some ⟨N.bq, 0, none⟩), .int .i64 i0] w fun e w' => e = .returned (evV (L i0)) ∧ Removed N n m i0 q L P w w' := by
  obtain ⟨bq, bi, bp, cap, capP⟩ := N
  replace hcap : n + 1 ≤ cap := hcap
  have hqi : bq ≠ bi := h.qi
  have hqp : bq ≠ bp := h.qp
  have hip : bi ≠ bp := h.ip
  have hq : bq < w.heap.size := h.hq
  have hi : bi < w.heap.size := h.hi
  have hp : bp < w.heap.size := h.hp
  have c0 : w.cell? ⟨bq, 0, none⟩ = some (.slice (some ⟨bi, 0, none⟩) (n + 1) cap) := h.c0
  have c2 : w.cell? ⟨bq, 2, none⟩ = some (.func (.func 17) #[] #[]) := h.c2
  have f : ∀ o, w.frozen? ⟨bq, o, none⟩ = false := h.fq
  have hn4 : n + 1 ≤ 4096 := h.hn
  have hm4 : m ≤ 65536 := h.hm
  obtain ⟨z1, z2, z3⟩ := hv.e i0 hin hk2
  have hqm : q < m := by omega
  have HH : Hid (Q ⟨bq, bi, bp, cap, capP⟩ w (n + 1) L m P ∧ Val (n + 1) m L P ∧ (L i0).k = 2 ∧ (L i0).r + 1 = (q : Int)) := ⟨h, hv, hk2, hrq⟩
  have d := h.it i0 hin
  have e := h.it n (by omega)
  obtain ⟨x, hx⟩ : ∃ x, L i0 = x := ⟨_, rfl⟩
  obtain ⟨y, hy⟩ : ∃ y, L n = y := ⟨_, rfl⟩
  have HX : Hid (L i0 = x) := hx
  have HY : Hid (L n = y) := hy
  rw [hx] at d hk2 hrq ⊢
  rw [hy] at e
  obtain ⟨d0, d1, d2, d3⟩ : w.cell? ⟨bi, i0 * 4, none⟩ = some (.int .i64 x.t) ∧ w.cell? ⟨bi, i0 * 4 + 1, none⟩ = some (.int .u64 x.s) ∧ w.cell? ⟨bi, i0 * 4 + 2, none⟩ = some (.int .u8 x.k) ∧ w.cell? ⟨bi, i0 * 4 + 3, none⟩ = some (.int .i64 x.r) := d
  obtain ⟨e0, e1, e2, e3⟩ : w.cell? ⟨bi, n * 4, none⟩ = some (.int .i64 y.t) ∧ w.cell? ⟨bi, n * 4 + 1, none⟩ = some (.int .u64 y.s) ∧ w.cell? ⟨bi, n * 4 + 2, none⟩ = some (.int .u8 y.k) ∧ w.cell? ⟨bi, n * 4 + 3, none⟩ = some (.int .i64 y.r) := e
  have hxk : keyI x.k x.r = x.r := by simp [keyI, hk2]
  have HK : Hid (keyI x.k x.r = x.r) := hxk
  have HRQ : Hid (x.r + 1 = (q : Int)) := hrq
  clear hxk hrq hk2 hx hy z1 z2 z3 h hv
  have hneq := neqKey
  have hin' : (i0 : Int) < (n : Int) + 1 := by omega
  have hq1 : bq < w.heap.size + 1 := by omega
  have hq2 : bq < w.heap.size + 1 + 1 := by omega
  have hq3 : bq < w.heap.size + 1 + 1 + 1 := by omega
  have hi1 : bi < w.heap.size + 1 := by omega
  have hi2 : bi < w.heap.size + 1 + 1 := by omega
  go_enter Try.func20, Try.ntmps20
  go_wp2
  have HG : Hid (w.heap.size = w.heap.size) := rfl
  refine wp_name (fun w1 => RS ⟨bq, bi, bp, cap, capP⟩ n m L P x y w.heap.size w w1) (RS.start (N := ⟨bq, bi, bp, cap, capP⟩) HH.out.1 x y) ?_
  clear c0 c2 f d0 d1 d2 d3 e0 e1 e2 e3 hq1 hq2 hq3 hi1 hi2 HG
  obtain ⟨g, hg⟩ : ∃ g, w.heap.size = g := ⟨_, rfl⟩
  have HG : Hid (w.heap.size = g) := hg
  rw [hg] at hq hi hp ⊢
  clear hg
  intro w1 h1
  have H1 : Hid (RS ⟨bq, bi, bp, cap, capP⟩ n m L P x y g w w1) := h1
  have c2 : w1.cell? ⟨bq, 2, none⟩ = some (.func (.func 17) #[] #[]) := h1.q.c2
  have c3 : w1.cell? ⟨bq, 3, none⟩ = some (.slice (some ⟨bp, 0, none⟩) m capP) := h1.q.c3
  have f : ∀ o, w1.frozen? ⟨bp, o, none⟩ = false := h1.q.fp
  have d4 : w1.cell? ⟨bp, q, none⟩ = some (.int .i64 (P q)) := h1.q.pl q hqm
  have x0 : w1.cell? ⟨g + 1, 0, none⟩ = some (.int .i64 x.t) := h1.b1.c0
  have x1 : w1.cell? ⟨g + 1, 1, none⟩ = some (.int .u64 x.s) := h1.b1.c1
  have x2 : w1.cell? ⟨g + 1, 2, none⟩ = some (.int .u8 x.k) := h1.b1.c2
  have x3 : w1.cell? ⟨g + 1, 3, none⟩ = some (.int .i64 x.r) := h1.b1.c3
  have hq1 : bq < w1.heap.size := h1.q.hq
  have hp1 : bp < w1.heap.size := h1.q.hp
  have hl1 : g + 1 < w1.heap.size := h1.b1.lt
  clear h1
  have hpq : bp ≠ bq := Ne.symm hqp
  have hpg : bp ≠ g + 1 := by omega
  have hkj : x.r + 1 = (q : Int) := HRQ.out
  have hkw : IntKind.i64.wrap (q : Int) = (q : Int) := by rw [IntKind.wrap_i64]; omega
  have hj0 : (0 : Int) ≤ (q : Int) := by omega
  have hjm' : (q : Int) < (m : Int) := by omega
  go_region_held3 (fun w' => w'.cell? ⟨bq, 3, none⟩ = some (.slice (some ⟨bp, 0, none⟩) m capP) ∧ w'.cell? ⟨bq, 2, none⟩ = some (.func (.func 17) #[] #[]) ∧ w'.cell? ⟨g + 1, 0, none⟩ = some (.int .i64 x.t) ∧ w'.cell? ⟨g + 1, 1, none⟩ = some (.int .u64 x.s) ∧ w'.cell? ⟨g + 1, 2, none⟩ = some (.int .u8 x.k) ∧ w'.cell? ⟨g + 1, 3, none⟩ = some (.int .i64 x.r)) (go_keep)
    ((go_at_call 17; refine (key_any _ _ _ _ _).mono ?_; rintro e w1 ⟨rfl, rfl⟩; rw [HK.out]))
  refine ex_name (fun w2 => RS ⟨bq, bi, bp, cap, capP⟩ n m L (upd P q (-1)) x y g w w2) (((H1.out.place hp hqm (-1)).alloc _).drew) ?_
  clear c2 c3 f d4 x0 x1 x2 x3 hq1 hp1 hl1 hkj hkw
  intro w2 h2
  have H2 : Hid (RS ⟨bq, bi, bp, cap, capP⟩ n m L (upd P q (-1)) x y g w w2) := h2
  by_cases hlast : i0 < n
  · have c0 : w2.cell? ⟨bq, 0, none⟩ = some (.slice (some ⟨bi, 0, none⟩) n cap) := h2.q.c0
    have f : ∀ o, w2.frozen? ⟨bi, o, none⟩ = false := h2.q.fi
    obtain ⟨d0, d1, d2, d3⟩ : w2.cell? ⟨bi, i0 * 4, none⟩ = some (.int .i64 (L i0).t) ∧ w2.cell? ⟨bi, i0 * 4 + 1, none⟩ = some (.int .u64 (L i0).s) ∧ w2.cell? ⟨bi, i0 * 4 + 2, none⟩ = some (.int .u8 (L i0).k) ∧ w2.cell? ⟨bi, i0 * 4 + 3, none⟩ = some (.int .i64 (L i0).r) := h2.q.it i0 hlast
    have y0 : w2.cell? ⟨g + 1 + 1, 0, none⟩ = some (.int .i64 y.t) := h2.b2.c0
    have y1 : w2.cell? ⟨g + 1 + 1, 1, none⟩ = some (.int .u64 y.s) := h2.b2.c1
    have y2 : w2.cell? ⟨g + 1 + 1, 2, none⟩ = some (.int .u8 y.k) := h2.b2.c2
    have y3 : w2.cell? ⟨g + 1 + 1, 3, none⟩ = some (.int .i64 y.r) := h2.b2.c3
    have hig : bi ≠ g + 1 + 1 := by omega
    clear h2
    go_wp2
    go_region
    refine ex_name (fun w3 => RS ⟨bq, bi, bp, cap, capP⟩ n m (upd L i0 y) (upd P q (-1)) x y g w w3) ((H2.out.item hi hlast y).drew) ?_
    clear c0 f d0 d1 d2 d3 y0 y1 y2 y3
    intro w3 h3
    have H3 : Hid (RS ⟨bq, bi, bp, cap, capP⟩ n m (upd L i0 y) (upd P q (-1)) x y g w w3) := h3
    have HST : Hid (St (n + 1) i0 m n L (upd (upd L i0 y) i0 (upd L i0 y i0)) (upd P q (-1)) i0) := by
      rw [upd_self, ← HY.out]; exact St.start HH.out.2.1 hlast HH.out.2.2.1 HH.out.2.2.2
    have c0 : w3.cell? ⟨bq, 0, none⟩ = some (.slice (some ⟨bi, 0, none⟩) n cap) := h3.q.c0
    have c1 : w3.cell? ⟨bq, 1, none⟩ = some (.func (.func 16) #[] #[]) := h3.q.c1
    have y0 : w3.cell? ⟨g + 1 + 1, 0, none⟩ = some (.int .i64 y.t) := h3.b2.c0
    have y1 : w3.cell? ⟨g + 1 + 1, 1, none⟩ = some (.int .u64 y.s) := h3.b2.c1
    have y2 : w3.cell? ⟨g + 1 + 1, 2, none⟩ = some (.int .u8 y.k) := h3.b2.c2
    have y3 : w3.cell? ⟨g + 1 + 1, 3, none⟩ = some (.int .i64 y.r) := h3.b2.c3
    have hq1 : bq < w3.heap.size := h3.q.hq
    have hi1 : bi < w3.heap.size := h3.q.hi
    have hl1 : g + 1 + 1 < w3.heap.size := h3.b2.lt
    by_cases hi0 : 0 < i0
    · obtain ⟨pm, hpm⟩ : ∃ pm : Nat, ((i0 : Int) - 1) / 2 = pm := ⟨(i0 - 1) / 2, by omega⟩
      have HPM : Hid (pm = (i0 - 1) / 2) := by show _ = _; omega
      have hpn : pm < n := by omega
      have hpn' : (pm : Int) < (n : Int) := by omega
      have hpn0 : (0 : Int) ≤ (pm : Int) := by omega
      have hi0' : (0 : Int) < (i0 : Int) := by omega
      have t1 : IntKind.i64.wrap ((i0 : Int) - 1) = (i0 : Int) - 1 := by rw [IntKind.wrap_i64]; omega
      have t2 : ((i0 : Int) - 1).tdiv 2 = (pm : Int) := by rw [Int.tdiv_eq_ediv_of_nonneg (by omega)]; omega
      have t3 : IntKind.i64.wrap (pm : Int) = (pm : Int) := by rw [IntKind.wrap_i64]; omega
      have hit := h3.q.it pm hpn
      rw [upd_other _ _ _ _ (by omega)] at hit
      obtain ⟨z, hz⟩ : ∃ z, L pm = z := ⟨_, rfl⟩
      rw [hz] at hit
      have HZ : Hid (L pm = z) := hz
      obtain ⟨z0, z1, z2, z3⟩ : w3.cell? ⟨bi, pm * 4, none⟩ = some (.int .i64 z.t) ∧ w3.cell? ⟨bi, pm * 4 + 1, none⟩ = some (.int .u64 z.s) ∧ w3.cell? ⟨bi, pm * 4 + 2, none⟩ = some (.int .u8 z.k) ∧ w3.cell? ⟨bi, pm * 4 + 3, none⟩ = some (.int .i64 z.r) := hit
      clear hz h3
      cases hlt : beforeB y.t y.s z.t z.s
      · have HLT : Hid (y.lt z = false) := hlt
        have HB : Hid (beforeB y.t y.s z.t z.s = false) := hlt
        clear hlt
        go_wp2_with fail
        go_region_held3 (fun w' => w'.cell? ⟨bq, 1, none⟩ = some (.func (.func 16) #[] #[]) ∧ w'.cell? ⟨bq, 0, none⟩ = some (.slice (some ⟨bi, 0, none⟩) n cap) ∧ w'.cell? ⟨g + 1 + 1, 0, none⟩ = some (.int .i64 y.t) ∧ w'.cell? ⟨g + 1 + 1, 1, none⟩ = some (.int .u64 y.s) ∧ w'.cell? ⟨g + 1 + 1, 2, none⟩ = some (.int .u8 y.k) ∧ w'.cell? ⟨g + 1 + 1, 3, none⟩ = some (.int .i64 y.r) ∧ w'.cell? ⟨bi, pm * 4, none⟩ = some (.int .i64 z.t) ∧ w'.cell? ⟨bi, pm * 4 + 1, none⟩ = some (.int .u64 z.s) ∧ w'.cell? ⟨bi, pm * 4 + 2, none⟩ = some (.int .u8 z.k) ∧ w'.cell? ⟨bi, pm * 4 + 3, none⟩ = some (.int .i64 z.r)) (go_keep)
          ((go_at_call 16; refine (less_any _ _ _ _ _ _ _ _ _).mono ?_; rintro e w1 ⟨rfl, rfl⟩; rw [HB.out]))
        all_goals go_wp2_with fail
        refine (down_any ⟨bq, bi, bp, cap, capP⟩ (n + 1) i0 i0 n m L (upd L i0 y) P (upd P q (-1)) _ HH.out.2.1 (by omega) ((H3.out.alloc _).alloc _).drew.q hlast HST.out (by rw [upd_self]; exact DnI.start HH.out.2.1 (by omega) hlast (fun _ => by rw [← HPM.out, HZ.out]; exact HLT.out))).mono ?_
        rintro e w4 ⟨rfl, hsf⟩
        have HSF : Hid _ := hsf
        obtain ⟨L4, P4, _, hf4, _, _⟩ := hsf
        have hb0 := ((H3.out.alloc _).alloc _).drew.b0.fr hf4 (by show g ≠ bq; omega) (by show g ≠ bi; omega) (by show g ≠ bp; omega)
        have hb1 := ((H3.out.alloc _).alloc _).drew.b1.fr hf4 (by show g + 1 ≠ bq; omega) (by show g + 1 ≠ bi; omega) (by show g + 1 ≠ bp; omega)
        have b00 : w4.cell? ⟨g, 0, none⟩ = some (.int .i64 0) := hb0.c0
        have b01 : w4.cell? ⟨g, 1, none⟩ = some (.int .u64 0) := hb0.c1
        have b02 : w4.cell? ⟨g, 2, none⟩ = some (.int .u8 0) := hb0.c2
        have b03 : w4.cell? ⟨g, 3, none⟩ = some (.int .i64 0) := hb0.c3
        have fb : ∀ o, w4.frozen? ⟨g, o, none⟩ = false := hb0.fz
        have x0 : w4.cell? ⟨g + 1, 0, none⟩ = some (.int .i64 x.t) := hb1.c0
        have x1 : w4.cell? ⟨g + 1, 1, none⟩ = some (.int .u64 x.s) := hb1.c1
        have x2 : w4.cell? ⟨g + 1, 2, none⟩ = some (.int .u8 x.k) := hb1.c2
        have x3 : w4.cell? ⟨g + 1, 3, none⟩ = some (.int .i64 x.r) := hb1.c3
        clear hb0 hb1 hf4
        go_wp2
        refine bodyPost_ret (v := .agg #[.int .i64 x.t, .int .u64 x.s, .int .u8 x.k, .int .i64 x.r]) (by simp [results, Try.results20, go_sem, b00, b01, b02, b03]) rfl ⟨rfl, ?_⟩
        exact Removed.up (w3 := w4) HH.out.2.1 hin HH.out.2.2.1 HH.out.2.2.2 HSF.out ((H3.out.alloc _).alloc _).drew.f HG.out hq hi hp
      · have HLT : Hid (y.lt z = true) := hlt
        have HB : Hid (beforeB y.t y.s z.t z.s = true) := hlt
        clear hlt
        go_wp2_with fail
        go_region_held3 (fun w' => w'.cell? ⟨bq, 1, none⟩ = some (.func (.func 16) #[] #[]) ∧ w'.cell? ⟨bq, 0, none⟩ = some (.slice (some ⟨bi, 0, none⟩) n cap) ∧ w'.cell? ⟨g + 1 + 1, 0, none⟩ = some (.int .i64 y.t) ∧ w'.cell? ⟨g + 1 + 1, 1, none⟩ = some (.int .u64 y.s) ∧ w'.cell? ⟨g + 1 + 1, 2, none⟩ = some (.int .u8 y.k) ∧ w'.cell? ⟨g + 1 + 1, 3, none⟩ = some (.int .i64 y.r) ∧ w'.cell? ⟨bi, pm * 4, none⟩ = some (.int .i64 z.t) ∧ w'.cell? ⟨bi, pm * 4 + 1, none⟩ = some (.int .u64 z.s) ∧ w'.cell? ⟨bi, pm * 4 + 2, none⟩ = some (.int .u8 z.k) ∧ w'.cell? ⟨bi, pm * 4 + 3, none⟩ = some (.int .i64 z.r)) (go_keep)
          ((go_at_call 16; refine (less_any _ _ _ _ _ _ _ _ _).mono ?_; rintro e w1 ⟨rfl, rfl⟩; rw [HB.out]))
        all_goals go_wp2_with fail
        refine (up_any ⟨bq, bi, bp, cap, capP⟩ (n + 1) i0 i0 n m L (upd L i0 y) P (upd P q (-1)) _ HH.out.2.1 (by omega) ((H3.out.alloc _).alloc _).drew.q hlast HST.out (by rw [upd_self]; exact UpI.start HH.out.2.1 (by omega) hlast hi0 (by rw [← HPM.out, HZ.out]; exact HLT.out))).mono ?_
        rintro e w4 ⟨rfl, hsf⟩
        have HSF : Hid _ := hsf
        obtain ⟨L4, P4, _, hf4, _, _⟩ := hsf
        have hb0 := ((H3.out.alloc _).alloc _).drew.b0.fr hf4 (by show g ≠ bq; omega) (by show g ≠ bi; omega) (by show g ≠ bp; omega)
        have hb1 := ((H3.out.alloc _).alloc _).drew.b1.fr hf4 (by show g + 1 ≠ bq; omega) (by show g + 1 ≠ bi; omega) (by show g + 1 ≠ bp; omega)
        have b00 : w4.cell? ⟨g, 0, none⟩ = some (.int .i64 0) := hb0.c0
        have b01 : w4.cell? ⟨g, 1, none⟩ = some (.int .u64 0) := hb0.c1
        have b02 : w4.cell? ⟨g, 2, none⟩ = some (.int .u8 0) := hb0.c2
        have b03 : w4.cell? ⟨g, 3, none⟩ = some (.int .i64 0) := hb0.c3
        have fb : ∀ o, w4.frozen? ⟨g, o, none⟩ = false := hb0.fz
        have x0 : w4.cell? ⟨g + 1, 0, none⟩ = some (.int .i64 x.t) := hb1.c0
        have x1 : w4.cell? ⟨g + 1, 1, none⟩ = some (.int .u64 x.s) := hb1.c1
        have x2 : w4.cell? ⟨g + 1, 2, none⟩ = some (.int .u8 x.k) := hb1.c2
        have x3 : w4.cell? ⟨g + 1, 3, none⟩ = some (.int .i64 x.r) := hb1.c3
        clear hb0 hb1 hf4
        go_wp2
        refine bodyPost_ret (v := .agg #[.int .i64 x.t, .int .u64 x.s, .int .u8 x.k, .int .i64 x.r]) (by simp [results, Try.results20, go_sem, b00, b01, b02, b03]) rfl ⟨rfl, ?_⟩
        exact Removed.up (w3 := w4) HH.out.2.1 hin HH.out.2.2.1 HH.out.2.2.2 HSF.out ((H3.out.alloc _).alloc _).drew.f HG.out hq hi hp
    · clear h3
      have hd : decide ((0 : Int) < (i0 : Int)) = false := decide_eq_false (by omega)
      have hd2 : decide (0 < i0) = false := decide_eq_false hi0
      go_wp2_with fail
      go_quiet (fail)
      go_wp2_with fail
      refine (down_any ⟨bq, bi, bp, cap, capP⟩ (n + 1) i0 i0 n m L (upd L i0 y) P (upd P q (-1)) _ HH.out.2.1 (by omega) (H3.out.drewN _).q hlast HST.out (by rw [upd_self]; exact DnI.start HH.out.2.1 (by omega) hlast (fun h => absurd h (by omega)))).mono ?_
      rintro e w4 ⟨rfl, hsf⟩
      have HSF : Hid _ := hsf
      obtain ⟨L4, P4, _, hf4, _, _⟩ := hsf
      have hb0 := (H3.out.drewN _).b0.fr hf4 (by show g ≠ bq; omega) (by show g ≠ bi; omega) (by show g ≠ bp; omega)
      have hb1 := (H3.out.drewN _).b1.fr hf4 (by show g + 1 ≠ bq; omega) (by show g + 1 ≠ bi; omega) (by show g + 1 ≠ bp; omega)
      have b00 : w4.cell? ⟨g, 0, none⟩ = some (.int .i64 0) := hb0.c0
      have b01 : w4.cell? ⟨g, 1, none⟩ = some (.int .u64 0) := hb0.c1
      have b02 : w4.cell? ⟨g, 2, none⟩ = some (.int .u8 0) := hb0.c2
      have b03 : w4.cell? ⟨g, 3, none⟩ = some (.int .i64 0) := hb0.c3
      have fb : ∀ o, w4.frozen? ⟨g, o, none⟩ = false := hb0.fz
      have x0 : w4.cell? ⟨g + 1, 0, none⟩ = some (.int .i64 x.t) := hb1.c0
      have x1 : w4.cell? ⟨g + 1, 1, none⟩ = some (.int .u64 x.s) := hb1.c1
      have x2 : w4.cell? ⟨g + 1, 2, none⟩ = some (.int .u8 x.k) := hb1.c2
      have x3 : w4.cell? ⟨g + 1, 3, none⟩ = some (.int .i64 x.r) := hb1.c3
      clear hb0 hb1 hf4
      go_wp2
      refine bodyPost_ret (v := .agg #[.int .i64 x.t, .int .u64 x.s, .int .u8 x.k, .int .i64 x.r]) (by simp [results, Try.results20, go_sem, b00, b01, b02, b03]) rfl ⟨rfl, ?_⟩
      exact Removed.up (w3 := w4) HH.out.2.1 hin HH.out.2.2.1 HH.out.2.2.2 HSF.out (H3.out.drewN _).f HG.out hq hi hp
  · obtain rfl : i0 = n := by omega
    have b00 : w2.cell? ⟨g, 0, none⟩ = some (.int .i64 0) := h2.b0.c0
    have b01 : w2.cell? ⟨g, 1, none⟩ = some (.int .u64 0) := h2.b0.c1
    have b02 : w2.cell? ⟨g, 2, none⟩ = some (.int .u8 0) := h2.b0.c2
    have b03 : w2.cell? ⟨g, 3, none⟩ = some (.int .i64 0) := h2.b0.c3
    have fb : ∀ o, w2.frozen? ⟨g, o, none⟩ = false := h2.b0.fz
    have x0 : w2.cell? ⟨g + 1, 0, none⟩ = some (.int .i64 x.t) := h2.b1.c0
    have x1 : w2.cell? ⟨g + 1, 1, none⟩ = some (.int .u64 x.s) := h2.b1.c1
    have x2 : w2.cell? ⟨g + 1, 2, none⟩ = some (.int .u8 x.k) := h2.b1.c2
    have x3 : w2.cell? ⟨g + 1, 3, none⟩ = some (.int .i64 x.r) := h2.b1.c3
    clear h2
    go_wp2
    refine bodyPost_ret (v := .agg #[.int .i64 x.t, .int .u64 x.s, .int .u8 x.k, .int .i64 x.r]) (by simp [results, Try.results20, go_sem, b00, b01, b02, b03]) rfl ⟨rfl, ?_⟩
    exact Removed.last HH.out.2.1 HH.out.2.2.1 HH.out.2.2.2 (q_result H2.out.q hq hi hp x) (fr_result H2.out.f (by have := HG.out; omega) x)

end Go.Proofs.Qxb6614809a
