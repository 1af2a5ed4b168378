/-
  FnCancelEndExact: the walk.
-/
import Derived.Test.Qxb6614809aMainP
namespace Go.Proofs.Qxb6614809a
open Go.RowKit
set_option linter.unusedVariables false

set_option maxRecDepth 100000 in
set_option maxHeartbeats 4000000 in
theorem main_no (a0 : Option Addr) (l0 c0 : Nat) (A : List Int) (a1 : Option Addr) (l1 c1 : Nat) (S : List Int) (a2 : Option Addr) (l2 c2 : Nat) (K : List Int) (a3 : Option Addr) (l3 c3 : Nat) (R : List Int) (a4 : Option Addr) (l4 c4 : Nat) (P : List Int) (p : Nat) (w : World)
    (hA : Ints .i64 w a0 A) (hS : Ints .u64 w a1 S) (hK : Ints .u8 w a2 K) (hR : Ints .i64 w a3 R) (hP : Ints .i64 w a4 P)
    (n0 : A.length = l0) (n1 : S.length = l1) (n2 : K.length = l2) (n3 : R.length = l3) (n4 : P.length = l4) (t0 : l0 ≤ 4096) (t1 : l1 ≤ 4096) (t2 : l2 ≤ 4096) (t3 : l3 ≤ 4096) (t4 : l4 ≤ 65536) (hp : p < 9223372036854775807)
    (hRw : ∀ i, -9223372036854775808 ≤ R.getD i 0 ∧ R.getD i 0 ≤ 9223372036854775807) (hz : a4 = none → l4 = 0 ∧ c4 = 0) (hX : ∀ i, i < K.length → ¬ (K.getD i 0 = 2 ∧ R.getD i 0 = (p : Int))) :
    Calls Try.prog 3 #[.slice a0 l0 c0, .slice a1 l1 c1, .slice a2 l2 c2, .slice a3 l3 c3, .slice a4 l4 c4, .int .i64 p] w fun e w' => e = .returned (.bool true) ∧ Below w.heap.size w w' := by
  have HB : Hid (∀ w, Calls Try.prog 4 #[.slice a0 l0 c0, .slice a1 l1 c1, .slice a2 l2 c2, .slice a3 l3 c3, .slice a4 l4 c4, .int .i64 p] w fun e w' => (∃ b : Bool, e = .returned (.bool b)) ∧ w' = w) := fun w => bytes_any a0 l0 c0 a1 l1 c1 a2 l2 c2 a3 l3 c3 a4 l4 c4 p w (by unfold maxLen; omega) (by unfold maxLen; omega) (by unfold maxLen; omega) (by unfold maxLen; omega) (by unfold maxLen; omega)
  have HV : Hid (∀ w', Below w.heap.size w w' → Calls Try.prog 5 #[.slice a0 l0 c0, .slice a1 l1 c1, .slice a2 l2 c2, .slice a3 l3 c3, .slice a4 l4 c4] w' fun e w'' => VOut A S K R P e ∧ ∃ q, w'' = w'.drewN q) := fun w' hb =>
    valid_all a0 l0 c0 A a1 l1 c1 S a2 l2 c2 K a3 l3 c3 R a4 l4 c4 P w' (hA.below hb) (hS.below hb) (hK.below hb) (hR.below hb) (hP.below hb) n0 n1 n2 n3 n4 t0 t4 hRw
  have HI : Hid (Ints .i64 w a0 A ∧ Ints .u64 w a1 S ∧ Ints .u8 w a2 K ∧ Ints .i64 w a3 R ∧ Ints .i64 w a4 P ∧ (a4 = none → l4 = 0 ∧ c4 = 0)) := ⟨hA, hS, hK, hR, hP, hz⟩
  have HN : Hid (A.length = l0 ∧ S.length = l1 ∧ K.length = l2 ∧ R.length = l3 ∧ P.length = l4) := ⟨n0, n1, n2, n3, n4⟩
  clear hA hS hK hR hP hz n0 n1 n2 n3 n4 hRw
  replace hX : Hid _ := hX
  have hp1 : ((p : Int) == 9223372036854775807) = false := beq_eq_false_iff_ne.2 (by omega)
  go_enter Try.func3, Try.ntmps3
  go_wp2_with fail
  refine (HB.out _).mono ?_
  clear HB
  rintro e w' ⟨⟨b, rfl⟩, rfl⟩
  cases b
  · go_wp2
    go_ret
    exact ⟨rfl, Below.refl _ _⟩
  go_wp2_with fail
  refine (HV.out _ (Below.refl _ _)).mono ?_
  clear HV
  rintro e w1 ⟨⟨b, rfl, hQV⟩, q, hq⟩
  have HB1 : Hid (Below w'.heap.size w' w1) := by rw [hq]; exact ⟨rfl, rfl, rfl, Nat.le_refl _, fun _ _ => rfl⟩
  clear hq
  cases b
  · clear hQV
    go_wp2
    go_ret
    exact ⟨rfl, HB1.out⟩
  have HQV : Hid (QV A S K R P) := hQV rfl
  clear hQV
  obtain rfl : l1 = l0 := by have h1 := HQV.out.lS; have h2 := HN.out; omega
  obtain rfl : l2 = l1 := by have h1 := HQV.out.lK; have h2 := HN.out; omega
  obtain rfl : l3 = l2 := by have h1 := HQV.out.lR; have h2 := HN.out; omega
  have hne := fun (w : World) => run_neq_slice_nil_any (P := Try.prog) w 22 2 a0 l3 c0 0 0 Try.underlying22
  go_upto_if 97 with fail
  go_cut [0, 13] from 96 to 104 (fun s0 s1 wc => ∃ a' c', s0 = .slice a' l3 c' ∧ Ints .i64 wc a' A ∧ Below w1.heap.size w1 wc)
  case first =>
    have hI := (HI.out.1).below HB1.out
    clear hne
    have HII : Hid (Ints .i64 w1 a0 A) := hI
    cases hao : a0.isNone
    · have hmk := run_make_row' (P := Try.prog) 22 2 (.int .i64 0) 8 Try.underlying22 Try.info2 rfl .i64 .i64 l3 (by omega) (by omega)
      obtain ⟨wk, hcp, hR, hB⟩ := copy_run' .i64 22 2 Try.underlying22 Try.size2 a0 hao c0 l3 A (by have h2 := HN.out; omega) w1 hI (.int .i64 0)
      have HR : Hid (Row .i64 2 wk w1.heap.size A) := hR
      have HBB : Hid (Below w1.heap.size w1 wk) := hB
      clear hR hB hI
      have hao2 : a0.isSome = true := by cases ha : a0 <;> simp_all
      go_wp2
      all_goals first | (have hc : a0.isSome = false := by assumption); (rw [hao2] at hc); (cases hc) | skip
      go_meet
      case rel => exact ⟨_, _, rfl, HR.out.ints, HBB.out⟩
    · clear hI
      have hao2 : a0.isSome = false := by cases ha : a0 <;> simp_all
      go_wp2
      all_goals first | (have hc : a0.isSome = true := by assumption); (rw [hao2] at hc); (cases hc) | skip
      go_meet
      case rel => exact ⟨a0, c0, rfl, HII.out, Below.refl _ _⟩
  case rest =>
  obtain ⟨d0, e0, rfl, hI, hB⟩ := hcut
  have HI0 : Hid (Ints .i64 wc d0 A) := hI
  have HC2 : Hid (Below w1.heap.size w1 wc) := hB
  have HB2 : Hid (Below w'.heap.size w' wc) := chain HB1.out hB
  clear hI hB hne
  obtain ⟨w2, rfl⟩ : ∃ w2 : World, w2 = wc := ⟨_, rfl⟩
  have hne := fun (w : World) => run_neq_slice_nil_any (P := Try.prog) w 23 37 a1 l3 c1 0 0 Try.underlying23
  go_upto_if 106 with fail
  go_cut [1, 14] from 105 to 113 (fun s0 s1 wc => ∃ a' c', s0 = .slice a' l3 c' ∧ Ints .u64 wc a' S ∧ Below w2.heap.size w2 wc)
  case first =>
    have hI := (HI.out.2.1).below HB2.out
    clear hne
    have HII : Hid (Ints .u64 w2 a1 S) := hI
    cases hao : a1.isNone
    · have hmk := run_make_row' (P := Try.prog) 23 37 (.int .u64 0) 8 Try.underlying23 Try.info37 rfl .i64 .i64 l3 (by omega) (by omega)
      obtain ⟨wk, hcp, hR, hB⟩ := copy_run' .u64 23 37 Try.underlying23 Try.size37 a1 hao c1 l3 S (by have h2 := HN.out; omega) w2 hI (.int .u64 0)
      have HR : Hid (Row .u64 37 wk w2.heap.size S) := hR
      have HBB : Hid (Below w2.heap.size w2 wk) := hB
      clear hR hB hI
      have hao2 : a1.isSome = true := by cases ha : a1 <;> simp_all
      go_wp2
      all_goals first | (have hc : a1.isSome = false := by assumption); (rw [hao2] at hc); (cases hc) | skip
      go_meet
      case rel => exact ⟨_, _, rfl, HR.out.ints, HBB.out⟩
    · clear hI
      have hao2 : a1.isSome = false := by cases ha : a1 <;> simp_all
      go_wp2
      all_goals first | (have hc : a1.isSome = true := by assumption); (rw [hao2] at hc); (cases hc) | skip
      go_meet
      case rel => exact ⟨a1, c1, rfl, HII.out, Below.refl _ _⟩
  case rest =>
  obtain ⟨d1, e1, rfl, hI, hB⟩ := hcut
  have HI1 : Hid (Ints .u64 wc d1 S) := hI
  have HC3 : Hid (Below w2.heap.size w2 wc) := hB
  have HB3 : Hid (Below w'.heap.size w' wc) := chain HB2.out hB
  clear hI hB hne
  obtain ⟨w3, rfl⟩ : ∃ w3 : World, w3 = wc := ⟨_, rfl⟩
  have hne := fun (w : World) => run_neq_slice_nil_any (P := Try.prog) w 24 5 a2 l3 c2 0 0 Try.underlying24
  go_upto_if 115 with fail
  go_cut [2, 15] from 114 to 122 (fun s0 s1 wc => ∃ a' c', s0 = .slice a' l3 c' ∧ Ints .u8 wc a' K ∧ Below w3.heap.size w3 wc)
  case first =>
    have hI := (HI.out.2.2.1).below HB3.out
    clear hne
    have HII : Hid (Ints .u8 w3 a2 K) := hI
    cases hao : a2.isNone
    · have hmk := run_make_row' (P := Try.prog) 24 5 (.int .u8 0) 1 Try.underlying24 Try.info5 rfl .i64 .i64 l3 (by omega) (by omega)
      obtain ⟨wk, hcp, hR, hB⟩ := copy_run' .u8 24 5 Try.underlying24 Try.size5 a2 hao c2 l3 K (by have h2 := HN.out; omega) w3 hI (.int .u8 0)
      have HR : Hid (Row .u8 5 wk w3.heap.size K) := hR
      have HBB : Hid (Below w3.heap.size w3 wk) := hB
      clear hR hB hI
      have hao2 : a2.isSome = true := by cases ha : a2 <;> simp_all
      go_wp2
      all_goals first | (have hc : a2.isSome = false := by assumption); (rw [hao2] at hc); (cases hc) | skip
      go_meet
      case rel => exact ⟨_, _, rfl, HR.out.ints, HBB.out⟩
    · clear hI
      have hao2 : a2.isSome = false := by cases ha : a2 <;> simp_all
      go_wp2
      all_goals first | (have hc : a2.isSome = true := by assumption); (rw [hao2] at hc); (cases hc) | skip
      go_meet
      case rel => exact ⟨a2, c2, rfl, HII.out, Below.refl _ _⟩
  case rest =>
  obtain ⟨d2, e2, rfl, hI, hB⟩ := hcut
  have HI2 : Hid (Ints .u8 wc d2 K) := hI
  have HC4 : Hid (Below w3.heap.size w3 wc) := hB
  have HB4 : Hid (Below w'.heap.size w' wc) := chain HB3.out hB
  clear hI hB hne
  obtain ⟨w4, rfl⟩ : ∃ w4 : World, w4 = wc := ⟨_, rfl⟩
  have hne := fun (w : World) => run_neq_slice_nil_any (P := Try.prog) w 25 3 a3 l3 c3 0 0 Try.underlying25
  go_upto_if 124 with fail
  go_cut [3, 16] from 123 to 131 (fun s0 s1 wc => ∃ a' c', s0 = .slice a' l3 c' ∧ Ints .i64 wc a' R ∧ Below w4.heap.size w4 wc)
  case first =>
    have hI := (HI.out.2.2.2.1).below HB4.out
    clear hne
    have HII : Hid (Ints .i64 w4 a3 R) := hI
    cases hao : a3.isNone
    · have hmk := run_make_row' (P := Try.prog) 25 3 (.int .i64 0) 8 Try.underlying25 Try.info3 rfl .i64 .i64 l3 (by omega) (by omega)
      obtain ⟨wk, hcp, hR, hB⟩ := copy_run' .i64 25 3 Try.underlying25 Try.size3 a3 hao c3 l3 R (by have h2 := HN.out; omega) w4 hI (.int .i64 0)
      have HR : Hid (Row .i64 3 wk w4.heap.size R) := hR
      have HBB : Hid (Below w4.heap.size w4 wk) := hB
      clear hR hB hI
      have hao2 : a3.isSome = true := by cases ha : a3 <;> simp_all
      go_wp2
      all_goals first | (have hc : a3.isSome = false := by assumption); (rw [hao2] at hc); (cases hc) | skip
      go_meet
      case rel => exact ⟨_, _, rfl, HR.out.ints, HBB.out⟩
    · clear hI
      have hao2 : a3.isSome = false := by cases ha : a3 <;> simp_all
      go_wp2
      all_goals first | (have hc : a3.isSome = true := by assumption); (rw [hao2] at hc); (cases hc) | skip
      go_meet
      case rel => exact ⟨a3, c3, rfl, HII.out, Below.refl _ _⟩
  case rest =>
  obtain ⟨d3, e3, rfl, hI, hB⟩ := hcut
  have HI3 : Hid (Ints .i64 wc d3 R) := hI
  have HC5 : Hid (Below w4.heap.size w4 wc) := hB
  have HB5 : Hid (Below w'.heap.size w' wc) := chain HB4.out hB
  clear hI hB hne
  obtain ⟨w5, rfl⟩ : ∃ w5 : World, w5 = wc := ⟨_, rfl⟩
  go_wp2_with fail
  refine (cloneInt_any a4 c4 l4 P _ (HI.out.2.2.2.2.1.below HB5.out) HN.out.2.2.2.2 t4 HI.out.2.2.2.2.2).mono ?_
  rintro e w6 ⟨ap, cp, rfl, hB6, hPl⟩
  have HB6 : Hid (Below w5.heap.size w5 w6) := hB6
  have HPl : Hid (l4 = 0 ∨ (ap = some ⟨w5.heap.size, 0, none⟩ ∧ Row .i64 3 w6 w5.heap.size P)) := hPl
  -- the copies in w6
  have HJ : Hid (Ints .i64 w6 d0 A ∧ Ints .u64 w6 d1 S ∧ Ints .u8 w6 d2 K ∧ Ints .i64 w6 d3 R ∧ Ints .i64 w6 a4 P ∧ Below w'.heap.size w' w6) :=
    ⟨(((HI0.out.below HC3.out).below HC4.out).below HC5.out).below hB6, ((HI1.out.below HC4.out).below HC5.out).below hB6, (HI2.out.below HC5.out).below hB6, HI3.out.below hB6, HI.out.2.2.2.2.1.below (HB5.out.trans (hB6.mono HB5.out.size)), HB5.out.trans (hB6.mono HB5.out.size)⟩
  clear hB6 hPl HC2 HC3 HC4 HC5 HI0 HI1 HI2 HI3 HB1 HB2 HB3 HB4
  go_wp2_with fail
  refine (findEnd_n d2 e2 K d3 e3 R p l3 _ HJ.out.2.2.1 HJ.out.2.2.2.1 t3 HN.out.2.2.1 HN.out.2.2.2.1).mono ?_
  rintro e w6' ⟨⟨jw, rfl, hFE⟩, rfl⟩
  rcases hFE with ⟨rfl, hno⟩ | ⟨i0, rfl, hi0, hik, hir⟩
  · have HNO : Hid (∀ i, i < K.length → ¬ (K.getD i 0 = 2 ∧ R.getD i 0 = (p : Int))) := hno
    clear hno
    have HNQ : Hid (∀ w, Ints .i64 w d0 A → Ints .u64 w d1 S → Ints .u8 w d2 K → Ints .i64 w d3 R → Calls Try.prog 8 #[.slice d0 l3 e0, .slice d1 l3 e1, .slice d2 l3 e2, .slice d3 l3 e3, .slice ap l4 cp] w fun e w' => e = .returned (.pointer (some ⟨w.heap.size + 1, 0, none⟩)) ∧ NewQ w w' l3 A S K R (.slice ap l4 cp)) := fun w i1 i2 i3 i4 =>
      newq_any d0 e0 A d1 e1 S d2 e2 K d3 e3 R ap l4 cp l3 w i1 i2 i3 i4 HN.out.1 HN.out.2.1 HN.out.2.2.1 HN.out.2.2.2.1 t3
    go_wp2_with fail
    refine (HNQ.out _ HJ.out.1 HJ.out.2.1 HJ.out.2.2.1 HJ.out.2.2.2.1).mono ?_
    clear HNQ
    rintro e w7 ⟨rfl, hN7⟩
    have HN7 : Hid (NewQ w6' w7 l3 A S K R (.slice ap l4 cp)) := hN7
    clear hN7
    go_wp2_with fail
    refine (cancel_no HN7.out HQV.out HN.out.2.2.2.2 t4 hp HPl.out HNO.out).mono ?_
    rintro e w8 ⟨rfl, hB8⟩
    have HB8 : Hid (Below w7.heap.size w7 w8) := hB8
    have sz7 := HN7.out.sz
    have k0 : w8.cell? ⟨w6'.heap.size + 1, 0, none⟩ = some (.slice (some ⟨w6'.heap.size, 0, none⟩) l3 l3) := by rw [hB8.cell (p := ⟨w6'.heap.size + 1, 0, none⟩) sz7]; exact HN7.out.c0
    have k3 : w8.cell? ⟨w6'.heap.size + 1, 3, none⟩ = some (.slice ap l4 cp) := by rw [hB8.cell (p := ⟨w6'.heap.size + 1, 3, none⟩) sz7]; exact HN7.out.c3
    have K0 : Hid _ := len_any (w6'.heap.size + 1) l3 l3 (some ⟨w6'.heap.size, 0, none⟩) w8 k0
    have K3 : Hid _ := place_any (w6'.heap.size + 1) l4 cp ap w8 k3
    clear hB8 sz7 k0 k3
    have h44 : ((l4 : Int) != (l4 : Int)) = false := by simp
    have h33 : ((l3 : Int) != (l3 : Int)) = false := by simp
    go_wp2_with fail
    refine Calls.mono (show Calls Try.prog 10 #[.pointer (some ⟨w6'.heap.size + 1, 0, none⟩)] w8 (fun e w' => e = .returned (.int .i64 l3) ∧ w' = w8) from K0.out) ?_
    rintro e w9 ⟨rfl, hw⟩
    rw [hw]; clear hw
    go_wp2_with fail
    refine Calls.mono (show Calls Try.prog 11 #[.pointer (some ⟨w6'.heap.size + 1, 0, none⟩)] w8 (fun e w' => e = .returned (.slice ap l4 cp) ∧ w' = w8) from K3.out) ?_
    rintro e w9' ⟨rfl, hw⟩
    rw [hw]; clear hw
    go_wp2_with fail
    refine (endIs_no d0 l3 e0 w8).mono ?_
    rintro e w9'' ⟨rfl, hw⟩
    rw [hw]; clear hw K0 K3
    -- all that was made lies below
    have HT : Hid (Below w'.heap.size w' w8) := HJ.out.2.2.2.2.2.trans ((HN7.out.bel.trans (HB8.out.mono (by have := HN7.out.sz; omega))).mono HJ.out.2.2.2.2.2.size)
    go_wp2_with fail
    go_loopw [25] (fun i wr => ∃ k : Nat, k ≤ l3 ∧ i = .int .i64 k ∧ Below w7.heap.size w7 wr) (fun i _ => l3 - (intOf i).toNat)
    case atStart => exact ⟨0, Nat.zero_le _, rfl, HB8.out⟩
    case round =>
      obtain ⟨k, hk, rfl, hBr⟩ := hrel
      have HBr : Hid (Below w7.heap.size w7 wr) := hBr
      clear hBr
      by_cases hlt : k < l3
      · have HIT : Hid _ := fun wx hb => item_new (w1 := wx) HN7.out hb t3 k hlt
        have hin : ∀ wx, Below w7.heap.size w7 wx → Below w6'.heap.size w6' wx := fun wx hb => HN7.out.bel.trans (hb.mono (by have := HN7.out.sz; omega))
        have HIN : Hid _ := hin
        obtain ⟨f0, g0, rfl, _⟩ := HJ.out.1.at (i := k) (by have := HN.out; omega)
        obtain ⟨f1, g1, rfl, _⟩ := HJ.out.2.1.at (i := k) (by have := HN.out; omega)
        obtain ⟨f2, g2, rfl, _⟩ := HJ.out.2.2.1.at (i := k) (by have := HN.out; omega)
        obtain ⟨f3, g3, rfl, _⟩ := HJ.out.2.2.2.1.at (i := k) (by have := HN.out; omega)
        clear hin
        go_wp2_with fail
        refine (HIT.out _ HBr.out).mono ?_
        rintro e wi ⟨rfl, hBi⟩
        have cA : wi.cell? ⟨f0, g0 + k, none⟩ = some (.int .i64 (A.getD k 0)) := ((HJ.out.1.below (HIN.out _ hBi)).cell (by have := HN.out; omega))
        have cS : wi.cell? ⟨f1, g1 + k, none⟩ = some (.int .u64 (S.getD k 0)) := ((HJ.out.2.1.below (HIN.out _ hBi)).cell (by have := HN.out; omega))
        have cK : wi.cell? ⟨f2, g2 + k, none⟩ = some (.int .u8 (K.getD k 0)) := ((HJ.out.2.2.1.below (HIN.out _ hBi)).cell (by have := HN.out; omega))
        have cR : wi.cell? ⟨f3, g3 + k, none⟩ = some (.int .i64 (R.getD k 0)) := ((HJ.out.2.2.2.1.below (HIN.out _ hBi)).cell (by have := HN.out; omega))
        have HBi : Hid (Below w7.heap.size w7 wi) := hBi
        clear hBi
        generalize A.getD k 0 = va at *
        generalize S.getD k 0 = vs at *
        generalize K.getD k 0 = vk at *
        generalize R.getD k 0 = vr at *
        have q0 : (va != va) = false := by simp
        have q1 : (vs != vs) = false := by simp
        have q2 : (vk != vk) = false := by simp
        have q3 : (vr != vr) = false := by simp
        go_wp2
        go_roundw
        case rel => exact ⟨k + 1, by omega, by go_num, HBi.out⟩
        case measure => simp [intOf]; omega
      · have HTr : Hid (Below w'.heap.size w' wr) := HJ.out.2.2.2.2.2.trans ((HN7.out.bel.trans (HBr.out.mono (by have := HN7.out.sz; omega))).mono HJ.out.2.2.2.2.2.size)
        have HIr : Hid (Below w6'.heap.size w6' wr) := HN7.out.bel.trans (HBr.out.mono (by have := HN7.out.sz; omega))
        go_wp2_with fail
        obtain ⟨wo, rfl⟩ : ∃ wo : World, wo = wr := ⟨_, rfl⟩
        go_loopw [30] (fun i wr => ∃ k : Nat, k ≤ l4 ∧ i = .int .i64 k ∧ ∃ q, wr = wo.drewN q) (fun i _ => l4 - (intOf i).toNat)
        case atStart => exact ⟨0, Nat.zero_le _, rfl, 0, rfl⟩
        case round =>
          obtain ⟨k2, hk2, rfl, q, hq⟩ := hrel
          have HQ : Hid (wr = wo.drewN q) := hq
          by_cases hlt2 : k2 < l4
          · have hPl := HPl.out.resolve_left (by omega)
            obtain ⟨rfl, hRow⟩ := hPl
            obtain ⟨f4, g4, rfl, _⟩ := HJ.out.2.2.2.2.1.at (i := k2) (by have := HN.out; omega)
            have cP : wr.cell? ⟨f4, g4 + k2, none⟩ = some (.int .i64 (P.getD k2 0)) := by rw [hq, World.cell?_drewN]; exact (HJ.out.2.2.2.2.1.below HIr.out).cell (by have := HN.out; omega)
            have cP' : wr.cell? ⟨w5.heap.size, k2, none⟩ = some (.int .i64 (P.getD k2 0)) := by
              rw [hq, World.cell?_drewN, HIr.out.cell (p := ⟨w5.heap.size, k2, none⟩) hRow.lt]; exact hRow.cell (by have := HN.out; omega)
            clear hq hRow
            generalize P.getD k2 0 = vp at *
            generalize w5.heap.size = g5 at *
            have q0 : (vp != vp) = false := by simp
            go_wp2_with fail
            go_quiet (fail)
            go_wp2
            go_roundw
            case rel => exact ⟨k2 + 1, by omega, by go_num, drewN_add HQ.out rfl⟩
            case measure => simp [intOf]; omega
          · clear hq
            go_wp2
            go_ret
            exact ⟨rfl, by rw [HQ.out]; exact ⟨HTr.out.os, HTr.out.tape, HTr.out.output, HTr.out.size, HTr.out.block⟩⟩
  · exact absurd ⟨hik, hir⟩ (hX.out i0 hi0)

end Go.Proofs.Qxb6614809a
