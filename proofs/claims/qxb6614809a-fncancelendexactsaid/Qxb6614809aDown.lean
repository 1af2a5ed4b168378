/-
  minHeap.down.
-/
import Derived.Test.Qxb6614809aUp
namespace Go.Proofs.Qxb6614809a
open Go.RowKit
set_option linter.unusedVariables false

/-- what stands at the head of a round of down -/
def DnRel (N : Nums) (n0 i0 m n g : Nat) (L0 : Nat → Ev) (x : Ev) (w wr : World) (k : Nat) : Prop :=
  ∃ L P, k < n ∧ Q N wr n L m P ∧ Fr N w wr ∧ Box wr g x ∧ St n0 i0 m n L0 (upd L k x) P k ∧ DnI n (upd L k x) k

theorem DnRel.start {N : Nums} {n0 i0 m n i : Nat} {L0 L : Nat → Ev} {P : Nat → Int} {x : Ev} {w : World} (h : Q N w n L m P) (hin : i < n) (hx : L i = x) (st : St n0 i0 m n L0 (upd L i (L i)) P i) (ui : DnI n (upd L i (L i)) i) :
    DnRel N n0 i0 m n w.heap.size L0 x w (w.alloc (.cells #[.int .i64 x.t, .int .u64 x.s, .int .u8 x.k, .int .i64 x.r] 46)) i := by
  rw [hx] at st ui
  exact ⟨L, P, hin, h.alloc _, (Fr.refl _ _).alloc _, Box.new _ _ rfl, st, ui⟩

/-- one step down -/
theorem DnRel.step {N : Nums} {n0 i0 m n k c g q : Nat} {L0 L : Nat → Ev} {P0 P : Nat → Int} {x : Ev} {w wr w2 : World} (hv : Val n0 m L0 P0) (hm : 0 < m) (hk : k < n) (hc : c < n) (h0 : 0 < c) (e : (c - 1) / 2 = k) (hF : Fr N w wr) (hB : Box w2 g x)
    (st : St n0 i0 m n L0 (upd L k x) P k) (ui : DnI n (upd L k x) k) (hlt : (L c).lt x = true) (hl : ∀ d, 0 < d → d < n → (d - 1) / 2 = k → (L d).lt (L c) = false) (hq : (L c).key + 1 = (q : Int)) (h2 : Q N w2 n (upd L k (L c)) m (upd P q k)) (hF2 : Fr N wr w2) : DnRel N n0 i0 m n g L0 x w w2 c :=
  ⟨_, _, hc, h2, hF.trans hF2, hB, st.move hv hm hk hc (by omega) hq, ui.move h0 hc e hlt hl⟩

theorem Fr.drewN {N : Nums} {a w : World} (h : Fr N a w) (q : Nat) : Fr N a (w.drewN q) := ⟨h.os, h.tape, h.output, h.size, h.block⟩
theorem Q.drewN {N : Nums} {w : World} {n m : Nat} {L : Nat → Ev} {P : Nat → Int} (h : Q N w n L m P) (q : Nat) : Q N (w.drewN q) n L m P := h.of_blocks (Nat.le_refl _) fun k hk => rfl
theorem Box.drewN {w : World} {g : Nat} {x : Ev} (h : Box w g x) (q : Nat) : Box (w.drewN q) g x := ⟨h.lt, h.c0, h.c1, h.c2, h.c3, h.fz⟩

theorem Ev.irrefl (x : Ev) : x.lt x = false := by rw [Ev.nlt_iff]; omega

/-- the lesser child: the left one, alone -/
theorem least_alone {n k c : Nat} {L : Nat → Ev} (e : c = 2 * k + 1) (h : ¬ c + 1 < n) : ∀ d, 0 < d → d < n → (d - 1) / 2 = k → (L d).lt (L c) = false := fun d h1 h2 h3 => by
  have : d = c := by omega
  rw [this]; exact Ev.irrefl _
theorem least_left {n k c : Nat} {L : Nat → Ev} (e : c = 2 * k + 1) (h : (L (c + 1)).lt (L c) = false) : ∀ d, 0 < d → d < n → (d - 1) / 2 = k → (L d).lt (L c) = false := fun d h1 h2 h3 => by
  by_cases h4 : d = c
  · rw [h4]; exact Ev.irrefl _
  · have : d = c + 1 := by omega
    rw [this]; exact h
theorem least_right {n k c : Nat} {L : Nat → Ev} (e : c = 2 * k + 1) (h : (L (c + 1)).lt (L c) = true) : ∀ d, 0 < d → d < n → (d - 1) / 2 = k → (L d).lt (L (c + 1)) = false := fun d h1 h2 h3 => by
  by_cases h4 : d = c + 1
  · rw [h4]; exact Ev.irrefl _
  · have : d = c := by omega
    rw [this]; exact Ev.asymm h

theorem least_right' {n k c e' : Nat} {L : Nat → Ev} (e : c = 2 * k + 1) (e2 : e' = c + 1) (h : (L e').lt (L c) = true) : ∀ d, 0 < d → d < n → (d - 1) / 2 = k → (L d).lt (L e') = false := by
  subst e2; exact least_right e h

set_option maxRecDepth 100000 in
set_option maxHeartbeats 2000000 in
theorem down_any (N : Nums) (n0 i0 i n m : Nat) (L0 L : Nat → Ev) (P0 P : Nat → Int) (w : World) (hv : Val n0 m L0 P0) (hm0 : 0 < m) (h : Q N w n L m P) (hin : i < n)
    (st : St n0 i0 m n L0 (upd L i (L i)) P i) (ui : DnI n (upd L i (L i)) i) :
    Calls Try.prog 22 #[.pointer (some ⟨N.bq, 0, none⟩), .int .i64 i] w fun e w' => e = .returned (.tuple #[]) ∧ Sifted N n0 i0 m n L0 w w' := by
  obtain ⟨bq, bi, bp, cap, capP⟩ := N
  have hq : bq < w.heap.size := h.hq
  have hi : bi < w.heap.size := h.hi
  have hp : bp < w.heap.size := h.hp
  have c0 : w.cell? ⟨bq, 0, none⟩ = some (.slice (some ⟨bi, 0, none⟩) n cap) := h.c0
  have d0 : w.cell? ⟨bi, i * 4, none⟩ = some (.int .i64 (L i).t) := (h.it i hin).1
  have d1 : w.cell? ⟨bi, i * 4 + 1, none⟩ = some (.int .u64 (L i).s) := (h.it i hin).2.1
  have d2 : w.cell? ⟨bi, i * 4 + 2, none⟩ = some (.int .u8 (L i).k) := (h.it i hin).2.2.1
  have d3 : w.cell? ⟨bi, i * 4 + 3, none⟩ = some (.int .i64 (L i).r) := (h.it i hin).2.2.2
  have hn4 : n ≤ 4096 := h.hn
  have HH : Hid (Q ⟨bq, bi, bp, cap, capP⟩ w n L m P ∧ Val n0 m L0 P0 ∧ St n0 i0 m n L0 (upd L i (L i)) P i ∧ DnI n (upd L i (L i)) i) := ⟨h, hv, st, ui⟩
  clear h hv st ui
  obtain ⟨x, hx⟩ : ∃ x, L i = x := ⟨_, rfl⟩
  rw [hx] at d0 d1 d2 d3
  have HX : Hid (L i = x) := hx
  clear hx
  go_enter Try.func22, Try.ntmps22
  go_wp2
  generalize hg : w.heap.size = g at *
  have HG : Hid (w.heap.size = g) := hg
  clear hg c0 d0 d1 d2 d3
  go_loopw [1] (fun i wr => ∃ k : Nat, i = .int .i64 k ∧ DnRel ⟨bq, bi, bp, cap, capP⟩ n0 i0 m n g L0 x w wr k) (fun i _ => n - (intOf i).toNat)
  case atStart => exact ⟨i, rfl, by rw [← HG.out]; exact DnRel.start HH.out.1 hin HX.out HH.out.2.2.1 HH.out.2.2.2⟩
  case round =>
    obtain ⟨k, rfl, L', P', hk, hQ, hF, hB, hS, hU⟩ := hrel
    have HR : Hid (Q ⟨bq, bi, bp, cap, capP⟩ wr n L' m P' ∧ Fr ⟨bq, bi, bp, cap, capP⟩ w wr ∧ Box wr g x ∧ St n0 i0 m n L0 (upd L' k x) P' k ∧ DnI n (upd L' k x) k) := ⟨hQ, hF, hB, hS, hU⟩
    have c0 : wr.cell? ⟨bq, 0, none⟩ = some (.slice (some ⟨bi, 0, none⟩) n cap) := hQ.c0
    have c1 : wr.cell? ⟨bq, 1, none⟩ = some (.func (.func 16) #[] #[]) := hQ.c1
    have x0 : wr.cell? ⟨g, 0, none⟩ = some (.int .i64 x.t) := hB.c0
    have x1 : wr.cell? ⟨g, 1, none⟩ = some (.int .u64 x.s) := hB.c1
    have x2 : wr.cell? ⟨g, 2, none⟩ = some (.int .u8 x.k) := hB.c2
    have x3 : wr.cell? ⟨g, 3, none⟩ = some (.int .i64 x.r) := hB.c3
    have hq1 : bq < wr.heap.size := hQ.hq
    have hi1 : bi < wr.heap.size := hQ.hi
    have hg1 : g < wr.heap.size := hB.lt
    clear hQ hF hB hS hU
    obtain ⟨c, hc⟩ : ∃ c : Nat, 2 * (k : Int) + 1 = c := ⟨2 * k + 1, by omega⟩
    have HC : Hid (c = 2 * k + 1) := by show _ = _; omega
    by_cases hcn : c < n
    · have hcn' : (c : Int) < (n : Int) := by omega
      have hc0' : (0 : Int) ≤ (c : Int) := by omega
      obtain ⟨y, hy⟩ : ∃ y, L' c = y := ⟨_, rfl⟩
      have hit := HR.out.1.it c hcn
      rw [hy] at hit
      have HY : Hid (L' c = y) := hy
      obtain ⟨y0, y1, y2, y3⟩ : wr.cell? ⟨bi, c * 4, none⟩ = some (.int .i64 y.t) ∧ wr.cell? ⟨bi, c * 4 + 1, none⟩ = some (.int .u64 y.s) ∧ wr.cell? ⟨bi, c * 4 + 2, none⟩ = some (.int .u8 y.k) ∧ wr.cell? ⟨bi, c * 4 + 3, none⟩ = some (.int .i64 y.r) := hit
      clear hy
      by_cases hr : c + 1 < n
      · obtain ⟨d, hd⟩ : ∃ d : Nat, (c : Int) + 1 = d := ⟨c + 1, by omega⟩
        have HD : Hid (d = c + 1) := by show _ = _; omega
        have hdn : d < n := by omega
        have hdn' : (d : Int) < (n : Int) := by omega
        have hd0' : (0 : Int) ≤ (d : Int) := by omega
        obtain ⟨v, hv⟩ : ∃ v, L' d = v := ⟨_, rfl⟩
        have hit := HR.out.1.it d hdn
        rw [hv] at hit
        have HV : Hid (L' d = v) := hv
        obtain ⟨v0, v1, v2, v3⟩ : wr.cell? ⟨bi, d * 4, none⟩ = some (.int .i64 v.t) ∧ wr.cell? ⟨bi, d * 4 + 1, none⟩ = some (.int .u64 v.s) ∧ wr.cell? ⟨bi, d * 4 + 2, none⟩ = some (.int .u8 v.k) ∧ wr.cell? ⟨bi, d * 4 + 3, none⟩ = some (.int .i64 v.r) := hit
        clear hv
        cases hlt1 : beforeB v.t v.s y.t y.s
        · have HLT1 : Hid (v.lt y = false) := hlt1
          have HB1 : Hid (beforeB v.t v.s y.t y.s = false) := hlt1
          clear hlt1
          go_wp2_with fail
          go_region_held3 (fun w' => w'.cell? ⟨bq, 1, none⟩ = some (.func (.func 16) #[] #[]) ∧ w'.cell? ⟨bq, 0, none⟩ = some (.slice (some ⟨bi, 0, none⟩) n cap) ∧ w'.cell? ⟨g, 0, none⟩ = some (.int .i64 x.t) ∧ w'.cell? ⟨g, 1, none⟩ = some (.int .u64 x.s) ∧ w'.cell? ⟨g, 2, none⟩ = some (.int .u8 x.k) ∧ w'.cell? ⟨g, 3, none⟩ = some (.int .i64 x.r) ∧ w'.cell? ⟨bi, c * 4, none⟩ = some (.int .i64 y.t) ∧ w'.cell? ⟨bi, c * 4 + 1, none⟩ = some (.int .u64 y.s) ∧ w'.cell? ⟨bi, c * 4 + 2, none⟩ = some (.int .u8 y.k) ∧ w'.cell? ⟨bi, c * 4 + 3, none⟩ = some (.int .i64 y.r) ∧ w'.cell? ⟨bi, d * 4, none⟩ = some (.int .i64 v.t) ∧ w'.cell? ⟨bi, d * 4 + 1, none⟩ = some (.int .u64 v.s) ∧ w'.cell? ⟨bi, d * 4 + 2, none⟩ = some (.int .u8 v.k) ∧ w'.cell? ⟨bi, d * 4 + 3, none⟩ = some (.int .i64 v.r)) (go_keep)
            ((go_at_call 16; refine (less_any _ _ _ _ _ _ _ _ _).mono ?_; rintro e w1 ⟨rfl, rfl⟩; rw [HB1.out]))
          all_goals go_wp2_with fail
          refine wp_name (fun w1 => Q ⟨bq, bi, bp, cap, capP⟩ w1 n L' m P' ∧ Fr ⟨bq, bi, bp, cap, capP⟩ w w1 ∧ Box w1 g x) (by first | exact ⟨HR.out.1.drewN _, HR.out.2.1.drewN _, HR.out.2.2.1.drewN _⟩ | exact ⟨((HR.out.1.alloc _).alloc _).drew, ((HR.out.2.1.alloc _).alloc _).drew, ((HR.out.2.2.1.alloc _).alloc _).drew⟩) ?_
          clear c0 c1 x0 x1 x2 x3 hq1 hi1 hg1
          rintro w1 ⟨hQ, hF, hB⟩
          have HR1 : Hid (Q ⟨bq, bi, bp, cap, capP⟩ w1 n L' m P' ∧ Fr ⟨bq, bi, bp, cap, capP⟩ w w1 ∧ Box w1 g x) := ⟨hQ, hF, hB⟩
          have c0 : w1.cell? ⟨bq, 0, none⟩ = some (.slice (some ⟨bi, 0, none⟩) n cap) := hQ.c0
          have c1 : w1.cell? ⟨bq, 1, none⟩ = some (.func (.func 16) #[] #[]) := hQ.c1
          have x0 : w1.cell? ⟨g, 0, none⟩ = some (.int .i64 x.t) := hB.c0
          have x1 : w1.cell? ⟨g, 1, none⟩ = some (.int .u64 x.s) := hB.c1
          have x2 : w1.cell? ⟨g, 2, none⟩ = some (.int .u8 x.k) := hB.c2
          have x3 : w1.cell? ⟨g, 3, none⟩ = some (.int .i64 x.r) := hB.c3
          have hq1 : bq < w1.heap.size := hQ.hq
          have hi1 : bi < w1.heap.size := hQ.hi
          have hg1 : g < w1.heap.size := hB.lt
          have hit := hQ.it c hcn
          rw [HY.out] at hit
          obtain ⟨z0, z1, z2, z3⟩ : w1.cell? ⟨bi, c * 4, none⟩ = some (.int .i64 y.t) ∧ w1.cell? ⟨bi, c * 4 + 1, none⟩ = some (.int .u64 y.s) ∧ w1.cell? ⟨bi, c * 4 + 2, none⟩ = some (.int .u8 y.k) ∧ w1.cell? ⟨bi, c * 4 + 3, none⟩ = some (.int .i64 y.r) := hit
          clear hQ hF hB
          cases hlt : beforeB y.t y.s x.t x.s
          · have HLT : Hid (y.lt x = false) := hlt
            have HB : Hid (beforeB y.t y.s x.t x.s = false) := hlt
            clear hlt
            obtain ⟨q, hxq, hqm, _, _⟩ := HR.out.2.2.2.1.key HH.out.2.1 hm0 hk
            rw [upd_same] at hxq
            have HXQ : Hid (x.key + 1 = (q : Int)) := hxq
            clear hxq
            go_region_held3 (fun w' => w'.cell? ⟨bq, 1, none⟩ = some (.func (.func 16) #[] #[]) ∧ w'.cell? ⟨bq, 0, none⟩ = some (.slice (some ⟨bi, 0, none⟩) n cap) ∧ w'.cell? ⟨g, 0, none⟩ = some (.int .i64 x.t) ∧ w'.cell? ⟨g, 1, none⟩ = some (.int .u64 x.s) ∧ w'.cell? ⟨g, 2, none⟩ = some (.int .u8 x.k) ∧ w'.cell? ⟨g, 3, none⟩ = some (.int .i64 x.r) ∧ w'.cell? ⟨bi, c * 4, none⟩ = some (.int .i64 y.t) ∧ w'.cell? ⟨bi, c * 4 + 1, none⟩ = some (.int .u64 y.s) ∧ w'.cell? ⟨bi, c * 4 + 2, none⟩ = some (.int .u8 y.k) ∧ w'.cell? ⟨bi, c * 4 + 3, none⟩ = some (.int .i64 y.r)) (go_keep)
              ((go_at_call 16; refine (less_any _ _ _ _ _ _ _ _ _).mono ?_; rintro e w1 ⟨rfl, rfl⟩; rw [HB.out]))
            all_goals go_wp2_with fail
            refine (set_any ⟨bq, bi, bp, cap, capP⟩ k q n m L' P' x _ ((HR1.out.1.alloc _).alloc _).drew hk HXQ.out hqm).mono ?_
            rintro e w2 ⟨rfl, hQ2, hF2⟩
            go_wp2
            go_end0
            exact ⟨rfl, UpRel.done HH.out.2.1 hm0 hk ((HR1.out.2.1.alloc _).alloc _).drew HR.out.2.2.2.1 (HR.out.2.2.2.2.done (fun d' h1 h2 h3 => Ev.ntrans ((least_left HC.out (by rw [← HD.out, HV.out, HY.out]; exact HLT1.out)) d' h1 h2 h3) (by rw [HY.out]; exact HLT.out))) HXQ.out hQ2 hF2⟩
          · have HLT : Hid (y.lt x = true) := hlt
            have HB : Hid (beforeB y.t y.s x.t x.s = true) := hlt
            clear hlt
            obtain ⟨q, hxq, hqm, _, _⟩ := HR.out.2.2.2.1.key HH.out.2.1 hm0 hcn
            rw [upd_other _ _ _ _ (by omega), HY.out] at hxq
            have HXQ : Hid (y.key + 1 = (q : Int)) := hxq
            clear hxq
            go_region_held3 (fun w' => w'.cell? ⟨bq, 1, none⟩ = some (.func (.func 16) #[] #[]) ∧ w'.cell? ⟨bq, 0, none⟩ = some (.slice (some ⟨bi, 0, none⟩) n cap) ∧ w'.cell? ⟨g, 0, none⟩ = some (.int .i64 x.t) ∧ w'.cell? ⟨g, 1, none⟩ = some (.int .u64 x.s) ∧ w'.cell? ⟨g, 2, none⟩ = some (.int .u8 x.k) ∧ w'.cell? ⟨g, 3, none⟩ = some (.int .i64 x.r) ∧ w'.cell? ⟨bi, c * 4, none⟩ = some (.int .i64 y.t) ∧ w'.cell? ⟨bi, c * 4 + 1, none⟩ = some (.int .u64 y.s) ∧ w'.cell? ⟨bi, c * 4 + 2, none⟩ = some (.int .u8 y.k) ∧ w'.cell? ⟨bi, c * 4 + 3, none⟩ = some (.int .i64 y.r)) (go_keep)
              ((go_at_call 16; refine (less_any _ _ _ _ _ _ _ _ _).mono ?_; rintro e w1 ⟨rfl, rfl⟩; rw [HB.out]))
            all_goals go_wp2_with fail
            refine (set_any ⟨bq, bi, bp, cap, capP⟩ k q n m L' P' y _ ((HR1.out.1.alloc _).alloc _).drew hk HXQ.out hqm).mono ?_
            rintro e w2 ⟨rfl, hQ2, hF2⟩
            have hB2 := (((HR1.out.2.2.alloc _).alloc _).drew).fr hF2 (by show g ≠ bq; omega) (by show g ≠ bi; omega) (by show g ≠ bp; omega)
            have HE : Hid _ := DnRel.step HH.out.2.1 hm0 hk hcn (by omega) (by omega) ((HR1.out.2.1.alloc _).alloc _).drew hB2 HR.out.2.2.2.1 HR.out.2.2.2.2 (by rw [HY.out]; exact HLT.out) (least_left HC.out (by rw [← HD.out, HV.out, HY.out]; exact HLT1.out)) (by rw [HY.out]; exact HXQ.out) (by rw [HY.out]; exact hQ2) hF2
            clear hQ2 hF2 hB2
            go_wp2
            go_roundw
            case rel => exact ⟨c, rfl, HE.out⟩
            case measure => simp [intOf]; omega
        · have HLT1 : Hid (v.lt y = true) := hlt1
          have HB1 : Hid (beforeB v.t v.s y.t y.s = true) := hlt1
          clear hlt1
          go_wp2_with fail
          go_region_held3 (fun w' => w'.cell? ⟨bq, 1, none⟩ = some (.func (.func 16) #[] #[]) ∧ w'.cell? ⟨bq, 0, none⟩ = some (.slice (some ⟨bi, 0, none⟩) n cap) ∧ w'.cell? ⟨g, 0, none⟩ = some (.int .i64 x.t) ∧ w'.cell? ⟨g, 1, none⟩ = some (.int .u64 x.s) ∧ w'.cell? ⟨g, 2, none⟩ = some (.int .u8 x.k) ∧ w'.cell? ⟨g, 3, none⟩ = some (.int .i64 x.r) ∧ w'.cell? ⟨bi, c * 4, none⟩ = some (.int .i64 y.t) ∧ w'.cell? ⟨bi, c * 4 + 1, none⟩ = some (.int .u64 y.s) ∧ w'.cell? ⟨bi, c * 4 + 2, none⟩ = some (.int .u8 y.k) ∧ w'.cell? ⟨bi, c * 4 + 3, none⟩ = some (.int .i64 y.r) ∧ w'.cell? ⟨bi, d * 4, none⟩ = some (.int .i64 v.t) ∧ w'.cell? ⟨bi, d * 4 + 1, none⟩ = some (.int .u64 v.s) ∧ w'.cell? ⟨bi, d * 4 + 2, none⟩ = some (.int .u8 v.k) ∧ w'.cell? ⟨bi, d * 4 + 3, none⟩ = some (.int .i64 v.r)) (go_keep)
            ((go_at_call 16; refine (less_any _ _ _ _ _ _ _ _ _).mono ?_; rintro e w1 ⟨rfl, rfl⟩; rw [HB1.out]))
          all_goals go_wp2_with fail
          refine wp_name (fun w1 => Q ⟨bq, bi, bp, cap, capP⟩ w1 n L' m P' ∧ Fr ⟨bq, bi, bp, cap, capP⟩ w w1 ∧ Box w1 g x) (by first | exact ⟨HR.out.1.drewN _, HR.out.2.1.drewN _, HR.out.2.2.1.drewN _⟩ | exact ⟨((HR.out.1.alloc _).alloc _).drew, ((HR.out.2.1.alloc _).alloc _).drew, ((HR.out.2.2.1.alloc _).alloc _).drew⟩) ?_
          clear c0 c1 x0 x1 x2 x3 hq1 hi1 hg1
          rintro w1 ⟨hQ, hF, hB⟩
          have HR1 : Hid (Q ⟨bq, bi, bp, cap, capP⟩ w1 n L' m P' ∧ Fr ⟨bq, bi, bp, cap, capP⟩ w w1 ∧ Box w1 g x) := ⟨hQ, hF, hB⟩
          have c0 : w1.cell? ⟨bq, 0, none⟩ = some (.slice (some ⟨bi, 0, none⟩) n cap) := hQ.c0
          have c1 : w1.cell? ⟨bq, 1, none⟩ = some (.func (.func 16) #[] #[]) := hQ.c1
          have x0 : w1.cell? ⟨g, 0, none⟩ = some (.int .i64 x.t) := hB.c0
          have x1 : w1.cell? ⟨g, 1, none⟩ = some (.int .u64 x.s) := hB.c1
          have x2 : w1.cell? ⟨g, 2, none⟩ = some (.int .u8 x.k) := hB.c2
          have x3 : w1.cell? ⟨g, 3, none⟩ = some (.int .i64 x.r) := hB.c3
          have hq1 : bq < w1.heap.size := hQ.hq
          have hi1 : bi < w1.heap.size := hQ.hi
          have hg1 : g < w1.heap.size := hB.lt
          have hit := hQ.it d hdn
          rw [HV.out] at hit
          obtain ⟨z0, z1, z2, z3⟩ : w1.cell? ⟨bi, d * 4, none⟩ = some (.int .i64 v.t) ∧ w1.cell? ⟨bi, d * 4 + 1, none⟩ = some (.int .u64 v.s) ∧ w1.cell? ⟨bi, d * 4 + 2, none⟩ = some (.int .u8 v.k) ∧ w1.cell? ⟨bi, d * 4 + 3, none⟩ = some (.int .i64 v.r) := hit
          clear hQ hF hB
          cases hlt : beforeB v.t v.s x.t x.s
          · have HLT : Hid (v.lt x = false) := hlt
            have HB : Hid (beforeB v.t v.s x.t x.s = false) := hlt
            clear hlt
            obtain ⟨q, hxq, hqm, _, _⟩ := HR.out.2.2.2.1.key HH.out.2.1 hm0 hk
            rw [upd_same] at hxq
            have HXQ : Hid (x.key + 1 = (q : Int)) := hxq
            clear hxq
            go_region_held3 (fun w' => w'.cell? ⟨bq, 1, none⟩ = some (.func (.func 16) #[] #[]) ∧ w'.cell? ⟨bq, 0, none⟩ = some (.slice (some ⟨bi, 0, none⟩) n cap) ∧ w'.cell? ⟨g, 0, none⟩ = some (.int .i64 x.t) ∧ w'.cell? ⟨g, 1, none⟩ = some (.int .u64 x.s) ∧ w'.cell? ⟨g, 2, none⟩ = some (.int .u8 x.k) ∧ w'.cell? ⟨g, 3, none⟩ = some (.int .i64 x.r) ∧ w'.cell? ⟨bi, d * 4, none⟩ = some (.int .i64 v.t) ∧ w'.cell? ⟨bi, d * 4 + 1, none⟩ = some (.int .u64 v.s) ∧ w'.cell? ⟨bi, d * 4 + 2, none⟩ = some (.int .u8 v.k) ∧ w'.cell? ⟨bi, d * 4 + 3, none⟩ = some (.int .i64 v.r)) (go_keep)
              ((go_at_call 16; refine (less_any _ _ _ _ _ _ _ _ _).mono ?_; rintro e w1 ⟨rfl, rfl⟩; rw [HB.out]))
            all_goals go_wp2_with fail
            refine (set_any ⟨bq, bi, bp, cap, capP⟩ k q n m L' P' x _ ((HR1.out.1.alloc _).alloc _).drew hk HXQ.out hqm).mono ?_
            rintro e w2 ⟨rfl, hQ2, hF2⟩
            go_wp2
            go_end0
            exact ⟨rfl, UpRel.done HH.out.2.1 hm0 hk ((HR1.out.2.1.alloc _).alloc _).drew HR.out.2.2.2.1 (HR.out.2.2.2.2.done (fun d' h1 h2 h3 => Ev.ntrans ((least_right' HC.out HD.out (by rw [HV.out, HY.out]; exact HLT1.out)) d' h1 h2 h3) (by rw [HV.out]; exact HLT.out))) HXQ.out hQ2 hF2⟩
          · have HLT : Hid (v.lt x = true) := hlt
            have HB : Hid (beforeB v.t v.s x.t x.s = true) := hlt
            clear hlt
            obtain ⟨q, hxq, hqm, _, _⟩ := HR.out.2.2.2.1.key HH.out.2.1 hm0 hdn
            rw [upd_other _ _ _ _ (by omega), HV.out] at hxq
            have HXQ : Hid (v.key + 1 = (q : Int)) := hxq
            clear hxq
            go_region_held3 (fun w' => w'.cell? ⟨bq, 1, none⟩ = some (.func (.func 16) #[] #[]) ∧ w'.cell? ⟨bq, 0, none⟩ = some (.slice (some ⟨bi, 0, none⟩) n cap) ∧ w'.cell? ⟨g, 0, none⟩ = some (.int .i64 x.t) ∧ w'.cell? ⟨g, 1, none⟩ = some (.int .u64 x.s) ∧ w'.cell? ⟨g, 2, none⟩ = some (.int .u8 x.k) ∧ w'.cell? ⟨g, 3, none⟩ = some (.int .i64 x.r) ∧ w'.cell? ⟨bi, d * 4, none⟩ = some (.int .i64 v.t) ∧ w'.cell? ⟨bi, d * 4 + 1, none⟩ = some (.int .u64 v.s) ∧ w'.cell? ⟨bi, d * 4 + 2, none⟩ = some (.int .u8 v.k) ∧ w'.cell? ⟨bi, d * 4 + 3, none⟩ = some (.int .i64 v.r)) (go_keep)
              ((go_at_call 16; refine (less_any _ _ _ _ _ _ _ _ _).mono ?_; rintro e w1 ⟨rfl, rfl⟩; rw [HB.out]))
            all_goals go_wp2_with fail
            refine (set_any ⟨bq, bi, bp, cap, capP⟩ k q n m L' P' v _ ((HR1.out.1.alloc _).alloc _).drew hk HXQ.out hqm).mono ?_
            rintro e w2 ⟨rfl, hQ2, hF2⟩
            have hB2 := (((HR1.out.2.2.alloc _).alloc _).drew).fr hF2 (by show g ≠ bq; omega) (by show g ≠ bi; omega) (by show g ≠ bp; omega)
            have HE : Hid _ := DnRel.step HH.out.2.1 hm0 hk hdn (by omega) (by omega) ((HR1.out.2.1.alloc _).alloc _).drew hB2 HR.out.2.2.2.1 HR.out.2.2.2.2 (by rw [HV.out]; exact HLT.out) (least_right' HC.out HD.out (by rw [HV.out, HY.out]; exact HLT1.out)) (by rw [HV.out]; exact HXQ.out) (by rw [HV.out]; exact hQ2) hF2
            clear hQ2 hF2 hB2
            go_wp2
            go_roundw
            case rel => exact ⟨d, rfl, HE.out⟩
            case measure => simp [intOf]; omega
      · have hd : decide ((c : Int) + 1 < (n : Int)) = false := decide_eq_false (by omega)
        go_wp2_with fail
        go_quiet (fail)
        go_wp2_with fail
        refine wp_name (fun w1 => Q ⟨bq, bi, bp, cap, capP⟩ w1 n L' m P' ∧ Fr ⟨bq, bi, bp, cap, capP⟩ w w1 ∧ Box w1 g x) (by first | exact ⟨HR.out.1.drewN _, HR.out.2.1.drewN _, HR.out.2.2.1.drewN _⟩ | exact ⟨((HR.out.1.alloc _).alloc _).drew, ((HR.out.2.1.alloc _).alloc _).drew, ((HR.out.2.2.1.alloc _).alloc _).drew⟩) ?_
        clear c0 c1 x0 x1 x2 x3 hq1 hi1 hg1
        rintro w1 ⟨hQ, hF, hB⟩
        have HR1 : Hid (Q ⟨bq, bi, bp, cap, capP⟩ w1 n L' m P' ∧ Fr ⟨bq, bi, bp, cap, capP⟩ w w1 ∧ Box w1 g x) := ⟨hQ, hF, hB⟩
        have c0 : w1.cell? ⟨bq, 0, none⟩ = some (.slice (some ⟨bi, 0, none⟩) n cap) := hQ.c0
        have c1 : w1.cell? ⟨bq, 1, none⟩ = some (.func (.func 16) #[] #[]) := hQ.c1
        have x0 : w1.cell? ⟨g, 0, none⟩ = some (.int .i64 x.t) := hB.c0
        have x1 : w1.cell? ⟨g, 1, none⟩ = some (.int .u64 x.s) := hB.c1
        have x2 : w1.cell? ⟨g, 2, none⟩ = some (.int .u8 x.k) := hB.c2
        have x3 : w1.cell? ⟨g, 3, none⟩ = some (.int .i64 x.r) := hB.c3
        have hq1 : bq < w1.heap.size := hQ.hq
        have hi1 : bi < w1.heap.size := hQ.hi
        have hg1 : g < w1.heap.size := hB.lt
        have hit := hQ.it c hcn
        rw [HY.out] at hit
        obtain ⟨z0, z1, z2, z3⟩ : w1.cell? ⟨bi, c * 4, none⟩ = some (.int .i64 y.t) ∧ w1.cell? ⟨bi, c * 4 + 1, none⟩ = some (.int .u64 y.s) ∧ w1.cell? ⟨bi, c * 4 + 2, none⟩ = some (.int .u8 y.k) ∧ w1.cell? ⟨bi, c * 4 + 3, none⟩ = some (.int .i64 y.r) := hit
        clear hQ hF hB
        cases hlt : beforeB y.t y.s x.t x.s
        · have HLT : Hid (y.lt x = false) := hlt
          have HB : Hid (beforeB y.t y.s x.t x.s = false) := hlt
          clear hlt
          obtain ⟨q, hxq, hqm, _, _⟩ := HR.out.2.2.2.1.key HH.out.2.1 hm0 hk
          rw [upd_same] at hxq
          have HXQ : Hid (x.key + 1 = (q : Int)) := hxq
          clear hxq
          go_region_held3 (fun w' => w'.cell? ⟨bq, 1, none⟩ = some (.func (.func 16) #[] #[]) ∧ w'.cell? ⟨bq, 0, none⟩ = some (.slice (some ⟨bi, 0, none⟩) n cap) ∧ w'.cell? ⟨g, 0, none⟩ = some (.int .i64 x.t) ∧ w'.cell? ⟨g, 1, none⟩ = some (.int .u64 x.s) ∧ w'.cell? ⟨g, 2, none⟩ = some (.int .u8 x.k) ∧ w'.cell? ⟨g, 3, none⟩ = some (.int .i64 x.r) ∧ w'.cell? ⟨bi, c * 4, none⟩ = some (.int .i64 y.t) ∧ w'.cell? ⟨bi, c * 4 + 1, none⟩ = some (.int .u64 y.s) ∧ w'.cell? ⟨bi, c * 4 + 2, none⟩ = some (.int .u8 y.k) ∧ w'.cell? ⟨bi, c * 4 + 3, none⟩ = some (.int .i64 y.r)) (go_keep)
            ((go_at_call 16; refine (less_any _ _ _ _ _ _ _ _ _).mono ?_; rintro e w1 ⟨rfl, rfl⟩; rw [HB.out]))
          all_goals go_wp2_with fail
          refine (set_any ⟨bq, bi, bp, cap, capP⟩ k q n m L' P' x _ ((HR1.out.1.alloc _).alloc _).drew hk HXQ.out hqm).mono ?_
          rintro e w2 ⟨rfl, hQ2, hF2⟩
          go_wp2
          go_end0
          exact ⟨rfl, UpRel.done HH.out.2.1 hm0 hk ((HR1.out.2.1.alloc _).alloc _).drew HR.out.2.2.2.1 (HR.out.2.2.2.2.done (fun d' h1 h2 h3 => Ev.ntrans ((least_alone HC.out hr) d' h1 h2 h3) (by rw [HY.out]; exact HLT.out))) HXQ.out hQ2 hF2⟩
        · have HLT : Hid (y.lt x = true) := hlt
          have HB : Hid (beforeB y.t y.s x.t x.s = true) := hlt
          clear hlt
          obtain ⟨q, hxq, hqm, _, _⟩ := HR.out.2.2.2.1.key HH.out.2.1 hm0 hcn
          rw [upd_other _ _ _ _ (by omega), HY.out] at hxq
          have HXQ : Hid (y.key + 1 = (q : Int)) := hxq
          clear hxq
          go_region_held3 (fun w' => w'.cell? ⟨bq, 1, none⟩ = some (.func (.func 16) #[] #[]) ∧ w'.cell? ⟨bq, 0, none⟩ = some (.slice (some ⟨bi, 0, none⟩) n cap) ∧ w'.cell? ⟨g, 0, none⟩ = some (.int .i64 x.t) ∧ w'.cell? ⟨g, 1, none⟩ = some (.int .u64 x.s) ∧ w'.cell? ⟨g, 2, none⟩ = some (.int .u8 x.k) ∧ w'.cell? ⟨g, 3, none⟩ = some (.int .i64 x.r) ∧ w'.cell? ⟨bi, c * 4, none⟩ = some (.int .i64 y.t) ∧ w'.cell? ⟨bi, c * 4 + 1, none⟩ = some (.int .u64 y.s) ∧ w'.cell? ⟨bi, c * 4 + 2, none⟩ = some (.int .u8 y.k) ∧ w'.cell? ⟨bi, c * 4 + 3, none⟩ = some (.int .i64 y.r)) (go_keep)
            ((go_at_call 16; refine (less_any _ _ _ _ _ _ _ _ _).mono ?_; rintro e w1 ⟨rfl, rfl⟩; rw [HB.out]))
          all_goals go_wp2_with fail
          refine (set_any ⟨bq, bi, bp, cap, capP⟩ k q n m L' P' y _ ((HR1.out.1.alloc _).alloc _).drew hk HXQ.out hqm).mono ?_
          rintro e w2 ⟨rfl, hQ2, hF2⟩
          have hB2 := (((HR1.out.2.2.alloc _).alloc _).drew).fr hF2 (by show g ≠ bq; omega) (by show g ≠ bi; omega) (by show g ≠ bp; omega)
          have HE : Hid _ := DnRel.step HH.out.2.1 hm0 hk hcn (by omega) (by omega) ((HR1.out.2.1.alloc _).alloc _).drew hB2 HR.out.2.2.2.1 HR.out.2.2.2.2 (by rw [HY.out]; exact HLT.out) (least_alone HC.out hr) (by rw [HY.out]; exact HXQ.out) (by rw [HY.out]; exact hQ2) hF2
          clear hQ2 hF2 hB2
          go_wp2
          go_roundw
          case rel => exact ⟨c, rfl, HE.out⟩
          case measure => simp [intOf]; omega
    · obtain ⟨q, hxq, hqm, _, _⟩ := HR.out.2.2.2.1.key HH.out.2.1 hm0 hk
      rw [upd_same] at hxq
      have HXQ : Hid (x.key + 1 = (q : Int)) := hxq
      clear hxq
      go_wp2_with fail
      refine (set_any ⟨bq, bi, bp, cap, capP⟩ k q n m L' P' x _ HR.out.1 hk HXQ.out hqm).mono ?_
      rintro e w2 ⟨rfl, hQ2, hF2⟩
      go_wp2
      go_end0
      exact ⟨rfl, UpRel.done HH.out.2.1 hm0 hk HR.out.2.1 HR.out.2.2.2.1 (HR.out.2.2.2.2.done (fun d' h1 h2 h3 => absurd h2 (by have := HC.out; omega))) HXQ.out hQ2 hF2⟩

end Go.Proofs.Qxb6614809a
