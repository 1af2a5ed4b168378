/-
  minHeap.up.
-/
import Derived.Test.Qxb6614809aSet
import Derived.Test.Qxb6614809aPlain2
namespace Go.Proofs.Qxb6614809a
open Go.RowKit
set_option linter.unusedVariables false

/-- what stands at the end of a sift -/
def Sifted (N : Nums) (n0 i0 m n : Nat) (L0 : Nat → Ev) (w w' : World) : Prop := ∃ L' P', Q N w' n L' m P' ∧ Fr N w w' ∧ St n0 i0 m n L0 L' P' n ∧ Heap n L'

/-- what stands at the head of a round of up -/
def UpRel (N : Nums) (n0 i0 m n g : Nat) (L0 : Nat → Ev) (x : Ev) (w wr : World) (k : Nat) : Prop :=
  ∃ L P, k < n ∧ Q N wr n L m P ∧ Fr N w wr ∧ Box wr g x ∧ St n0 i0 m n L0 (upd L k x) P k ∧ UpI n (upd L k x) k

theorem UpRel.start {N : Nums} {n0 i0 m n i : Nat} {L0 L : Nat → Ev} {P : Nat → Int} {x : Ev} {w : World} (h : Q N w n L m P) (hin : i < n) (hx : L i = x) (st : St n0 i0 m n L0 (upd L i (L i)) P i) (ui : UpI n (upd L i (L i)) i) :
    UpRel N n0 i0 m n w.heap.size L0 x w (w.alloc (.cells #[.int .i64 x.t, .int .u64 x.s, .int .u8 x.k, .int .i64 x.r] 46)) i := by
  rw [hx] at st ui
  exact ⟨L, P, hin, h.alloc _, (Fr.refl _ _).alloc _, Box.new _ _ rfl, st, ui⟩

/-- the value is set where it belongs -/
theorem UpRel.done {N : Nums} {n0 i0 m n k q : Nat} {L0 L : Nat → Ev} {P0 P : Nat → Int} {x : Ev} {w wr w2 : World} (hv : Val n0 m L0 P0) (hm : 0 < m) (hk : k < n) (hF : Fr N w wr) (st : St n0 i0 m n L0 (upd L k x) P k) (hh : Heap n (upd L k x))
    (hq : x.key + 1 = (q : Int)) (h2 : Q N w2 n (upd L k x) m (upd P q k)) (hF2 : Fr N wr w2) : Sifted N n0 i0 m n L0 w w2 :=
  ⟨_, _, h2, hF.trans hF2, st.done hv hm hk hq, hh⟩

/-- one step up -/
theorem UpRel.step {N : Nums} {n0 i0 m n k pm g q : Nat} {L0 L : Nat → Ev} {P0 P : Nat → Int} {x : Ev} {w wr w2 : World} (hv : Val n0 m L0 P0) (hm : 0 < m) (hk : k < n) (h0 : 0 < k) (e : pm = (k - 1) / 2) (hF : Fr N w wr) (hB : Box w2 g x)
    (st : St n0 i0 m n L0 (upd L k x) P k) (ui : UpI n (upd L k x) k) (hlt : x.lt (L pm) = true) (hq : (L pm).key + 1 = (q : Int)) (h2 : Q N w2 n (upd L k (L pm)) m (upd P q k)) (hF2 : Fr N wr w2) : UpRel N n0 i0 m n g L0 x w w2 pm :=
  ⟨_, _, by omega, h2, hF.trans hF2, hB, st.move hv hm hk (by omega) (by omega) hq, ui.move hk h0 e hlt⟩

set_option maxRecDepth 100000 in
set_option maxHeartbeats 1000000 in
theorem up_any (N : Nums) (n0 i0 i n m : Nat) (L0 L : Nat → Ev) (P0 P : Nat → Int) (w : World) (hv : Val n0 m L0 P0) (hm0 : 0 < m) (h : Q N w n L m P) (hin : i < n)
    (st : St n0 i0 m n L0 (upd L i (L i)) P i) (ui : UpI n (upd L i (L i)) i) :
    Calls Try.prog 21 #[.pointer (some ⟨N.bq, 0, none⟩), .int .i64 i] w fun e w' => e = .returned (.tuple #[]) ∧ Sifted N n0 i0 m n L0 w w' := by
  obtain ⟨bq, bi, bp, cap, capP⟩ := N
  have hq : bq < w.heap.size := h.hq
  have hi : bi < w.heap.size := h.hi
  have hp : bp < w.heap.size := h.hp
  have c0 : w.cell? ⟨bq, 0, none⟩ = some (.slice (some ⟨bi, 0, none⟩) n cap) := h.c0
  have d0 : w.cell? ⟨bi, i * 4, none⟩ = some (.int .i64 (L i).t) := (h.it i hin).1
  have d1 : w.cell? ⟨bi, i * 4 + 1, none⟩ = some (.int .u64 (L i).s) := (h.it i hin).2.1
  have d2 : w.cell? ⟨bi, i * 4 + 2, none⟩ = some (.int .u8 (L i).k) := (h.it i hin).2.2.1
  have d3 : w.cell? ⟨bi, i * 4 + 3, none⟩ = some (.int .i64 (L i).r) := (h.it i hin).2.2.2
  have hn4 : n ≤ 4096 := h.hn
  have HH : Hid (Q ⟨bq, bi, bp, cap, capP⟩ w n L m P ∧ Val n0 m L0 P0 ∧ St n0 i0 m n L0 (upd L i (L i)) P i ∧ UpI n (upd L i (L i)) i) := ⟨h, hv, st, ui⟩
  clear h hv st ui
  obtain ⟨x, hx⟩ : ∃ x, L i = x := ⟨_, rfl⟩
  rw [hx] at d0 d1 d2 d3
  have HX : Hid (L i = x) := hx
  clear hx
  go_enter Try.func21, Try.ntmps21
  go_wp2
  generalize hg : w.heap.size = g at *
  have HG : Hid (w.heap.size = g) := hg
  clear hg c0 d0 d1 d2 d3
  go_loopw [1] (fun i wr => ∃ k : Nat, i = .int .i64 k ∧ UpRel ⟨bq, bi, bp, cap, capP⟩ n0 i0 m n g L0 x w wr k) (fun i _ => (intOf i).toNat)
  case atStart => exact ⟨i, rfl, by rw [← HG.out]; exact UpRel.start HH.out.1 hin HX.out HH.out.2.2.1 HH.out.2.2.2⟩
  case round =>
    obtain ⟨k, rfl, L', P', hk, hQ, hF, hB, hS, hU⟩ := hrel
    have HR : Hid (Q ⟨bq, bi, bp, cap, capP⟩ wr n L' m P' ∧ Fr ⟨bq, bi, bp, cap, capP⟩ w wr ∧ Box wr g x ∧ St n0 i0 m n L0 (upd L' k x) P' k ∧ UpI n (upd L' k x) k) := ⟨hQ, hF, hB, hS, hU⟩
    have c0 : wr.cell? ⟨bq, 0, none⟩ = some (.slice (some ⟨bi, 0, none⟩) n cap) := hQ.c0
    have c1 : wr.cell? ⟨bq, 1, none⟩ = some (.func (.func 16) #[] #[]) := hQ.c1
    have x0 : wr.cell? ⟨g, 0, none⟩ = some (.int .i64 x.t) := hB.c0
    have x1 : wr.cell? ⟨g, 1, none⟩ = some (.int .u64 x.s) := hB.c1
    have x2 : wr.cell? ⟨g, 2, none⟩ = some (.int .u8 x.k) := hB.c2
    have x3 : wr.cell? ⟨g, 3, none⟩ = some (.int .i64 x.r) := hB.c3
    have hq1 : bq < wr.heap.size := hQ.hq
    have hi1 : bi < wr.heap.size := hQ.hi
    have hg1 : g < wr.heap.size := hB.lt
    clear hQ hF hB hS hU
    by_cases hk0 : 0 < k
    · obtain ⟨pm, hpm⟩ : ∃ pm : Nat, ((k : Int) - 1) / 2 = pm := ⟨(k - 1) / 2, by omega⟩
      have HPM : Hid (pm = (k - 1) / 2) := by show _ = _; omega
      have hpk : pm < k := by omega
      have hpn : pm < n := by omega
      have hpn' : (pm : Int) < (n : Int) := by omega
      have hpn0 : (0 : Int) ≤ (pm : Int) := by omega
      have hit := HR.out.1.it pm hpn
      obtain ⟨y, hy⟩ : ∃ y, L' pm = y := ⟨_, rfl⟩
      rw [hy] at hit
      have HY : Hid (L' pm = y) := hy
      obtain ⟨y0, y1, y2, y3⟩ : wr.cell? ⟨bi, pm * 4, none⟩ = some (.int .i64 y.t) ∧ wr.cell? ⟨bi, pm * 4 + 1, none⟩ = some (.int .u64 y.s) ∧ wr.cell? ⟨bi, pm * 4 + 2, none⟩ = some (.int .u8 y.k) ∧ wr.cell? ⟨bi, pm * 4 + 3, none⟩ = some (.int .i64 y.r) := hit
      clear hy
      cases hlt : beforeB x.t x.s y.t y.s
      · have HLT : Hid (x.lt y = false) := hlt
        have HB : Hid (beforeB x.t x.s y.t y.s = false) := hlt
        clear hlt
        obtain ⟨q, hxq, hqm, _, _⟩ := HR.out.2.2.2.1.key HH.out.2.1 hm0 hk
        rw [upd_same] at hxq
        have HXQ : Hid (x.key + 1 = (q : Int)) := hxq
        clear hxq
        go_wp2_with fail
        go_region_held3 (fun w' => w'.cell? ⟨bq, 1, none⟩ = some (.func (.func 16) #[] #[]) ∧ w'.cell? ⟨bq, 0, none⟩ = some (.slice (some ⟨bi, 0, none⟩) n cap) ∧ w'.cell? ⟨g, 0, none⟩ = some (.int .i64 x.t) ∧ w'.cell? ⟨g, 1, none⟩ = some (.int .u64 x.s) ∧ w'.cell? ⟨g, 2, none⟩ = some (.int .u8 x.k) ∧ w'.cell? ⟨g, 3, none⟩ = some (.int .i64 x.r) ∧ w'.cell? ⟨bi, pm * 4, none⟩ = some (.int .i64 y.t) ∧ w'.cell? ⟨bi, pm * 4 + 1, none⟩ = some (.int .u64 y.s) ∧ w'.cell? ⟨bi, pm * 4 + 2, none⟩ = some (.int .u8 y.k) ∧ w'.cell? ⟨bi, pm * 4 + 3, none⟩ = some (.int .i64 y.r)) (go_keep)
          ((go_at_call 16; refine (less_any _ _ _ _ _ _ _ _ _).mono ?_; rintro e w1 ⟨rfl, rfl⟩; rw [HB.out]))
        all_goals go_wp2_with fail
        refine (set_any ⟨bq, bi, bp, cap, capP⟩ k q n m L' P' x _ ((HR.out.1.alloc _).alloc _).drew hk HXQ.out hqm).mono ?_
        rintro e w2 ⟨rfl, hQ2, hF2⟩
        go_wp2
        go_end0
        exact ⟨rfl, UpRel.done HH.out.2.1 hm0 hk ((HR.out.2.1.alloc _).alloc _).drew HR.out.2.2.2.1 (HR.out.2.2.2.2.done hk (fun _ => by rw [← HPM.out, HY.out]; exact HLT.out)) HXQ.out hQ2 hF2⟩
      · have HLT : Hid (x.lt y = true) := hlt
        have HB : Hid (beforeB x.t x.s y.t y.s = true) := hlt
        clear hlt
        obtain ⟨q, hxq, hqm, _, _⟩ := HR.out.2.2.2.1.key HH.out.2.1 hm0 hpn
        rw [upd_other _ _ _ _ (by omega), HY.out] at hxq
        have HXQ : Hid (y.key + 1 = (q : Int)) := hxq
        clear hxq
        go_wp2_with fail
        go_region_held3 (fun w' => w'.cell? ⟨bq, 1, none⟩ = some (.func (.func 16) #[] #[]) ∧ w'.cell? ⟨bq, 0, none⟩ = some (.slice (some ⟨bi, 0, none⟩) n cap) ∧ w'.cell? ⟨g, 0, none⟩ = some (.int .i64 x.t) ∧ w'.cell? ⟨g, 1, none⟩ = some (.int .u64 x.s) ∧ w'.cell? ⟨g, 2, none⟩ = some (.int .u8 x.k) ∧ w'.cell? ⟨g, 3, none⟩ = some (.int .i64 x.r) ∧ w'.cell? ⟨bi, pm * 4, none⟩ = some (.int .i64 y.t) ∧ w'.cell? ⟨bi, pm * 4 + 1, none⟩ = some (.int .u64 y.s) ∧ w'.cell? ⟨bi, pm * 4 + 2, none⟩ = some (.int .u8 y.k) ∧ w'.cell? ⟨bi, pm * 4 + 3, none⟩ = some (.int .i64 y.r)) (go_keep)
          ((go_at_call 16; refine (less_any _ _ _ _ _ _ _ _ _).mono ?_; rintro e w1 ⟨rfl, rfl⟩; rw [HB.out]))
        all_goals go_wp2_with fail
        refine (set_any ⟨bq, bi, bp, cap, capP⟩ k q n m L' P' y _ ((HR.out.1.alloc _).alloc _).drew hk HXQ.out hqm).mono ?_
        rintro e w2 ⟨rfl, hQ2, hF2⟩
        have hB2 := (((HR.out.2.2.1.alloc _).alloc _).drew).fr hF2 (by show g ≠ bq; omega) (by show g ≠ bi; omega) (by show g ≠ bp; omega)
        have HE : Hid _ := UpRel.step HH.out.2.1 hm0 hk hk0 HPM.out ((HR.out.2.1.alloc _).alloc _).drew hB2 HR.out.2.2.2.1 HR.out.2.2.2.2 (by rw [HY.out]; exact HLT.out) (by rw [HY.out]; exact HXQ.out) (by rw [HY.out]; exact hQ2) hF2
        clear hQ2 hF2 hB2
        go_wp2
        go_roundw
        case rel => exact ⟨pm, rfl, HE.out⟩
        case measure => simp [intOf]; omega
    · obtain rfl : k = 0 := by omega
      obtain ⟨q, hxq, hqm, _, _⟩ := HR.out.2.2.2.1.key HH.out.2.1 hm0 hk
      rw [upd_same] at hxq
      go_wp2_with fail
      refine (set_any ⟨bq, bi, bp, cap, capP⟩ 0 q n m L' P' x _ HR.out.1 hk hxq hqm).mono ?_
      rintro e w2 ⟨rfl, hQ2, hF2⟩
      go_wp2
      go_end0
      exact ⟨rfl, UpRel.done HH.out.2.1 hm0 hk HR.out.2.1 HR.out.2.2.2.1 (HR.out.2.2.2.2.done hk (fun h => absurd h (by omega))) hxq hQ2 hF2⟩

end Go.Proofs.Qxb6614809a
