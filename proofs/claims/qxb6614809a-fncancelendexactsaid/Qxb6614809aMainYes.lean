/-
  FnCancelEndExact: the walk.
-/
import Derived.Test.Qxb6614809aMainP
namespace Go.Proofs.Qxb6614809a
open Go.RowKit
set_option linter.unusedVariables false

set_option maxRecDepth 100000 in
set_option maxHeartbeats 4000000 in
theorem main_yes (a0 : Option Addr) (l0 c0 : Nat) (A : List Int) (a1 : Option Addr) (l1 c1 : Nat) (S : List Int) (a2 : Option Addr) (l2 c2 : Nat) (K : List Int) (a3 : Option Addr) (l3 c3 : Nat) (R : List Int) (a4 : Option Addr) (l4 c4 : Nat) (P : List Int) (p : Nat) (w : World)
    (hA : Ints .i64 w a0 A) (hS : Ints .u64 w a1 S) (hK : Ints .u8 w a2 K) (hR : Ints .i64 w a3 R) (hP : Ints .i64 w a4 P)
    (n0 : A.length = l0) (n1 : S.length = l1) (n2 : K.length = l2) (n3 : R.length = l3) (n4 : P.length = l4) (t0 : l0 ≤ 4096) (t1 : l1 ≤ 4096) (t2 : l2 ≤ 4096) (t3 : l3 ≤ 4096) (t4 : l4 ≤ 65536) (hp : p < 9223372036854775807)
    (hRw : ∀ i, -9223372036854775808 ≤ R.getD i 0 ∧ R.getD i 0 ≤ 9223372036854775807) (hz : a4 = none → l4 = 0 ∧ c4 = 0) (iX : Nat) (hX : iX < K.length ∧ K.getD iX 0 = 2 ∧ R.getD iX 0 = (p : Int)) :
    Calls Try.prog 3 #[.slice a0 l0 c0, .slice a1 l1 c1, .slice a2 l2 c2, .slice a3 l3 c3, .slice a4 l4 c4, .int .i64 p] w fun e w' => e = .returned (.bool true) ∧ Below w.heap.size w w' := by
  have HB : Hid (∀ w, Calls Try.prog 4 #[.slice a0 l0 c0, .slice a1 l1 c1, .slice a2 l2 c2, .slice a3 l3 c3, .slice a4 l4 c4, .int .i64 p] w fun e w' => (∃ b : Bool, e = .returned (.bool b)) ∧ w' = w) := fun w => bytes_any a0 l0 c0 a1 l1 c1 a2 l2 c2 a3 l3 c3 a4 l4 c4 p w (by unfold maxLen; omega) (by unfold maxLen; omega) (by unfold maxLen; omega) (by unfold maxLen; omega) (by unfold maxLen; omega)
  have HV : Hid (∀ w', Below w.heap.size w w' → Calls Try.prog 5 #[.slice a0 l0 c0, .slice a1 l1 c1, .slice a2 l2 c2, .slice a3 l3 c3, .slice a4 l4 c4] w' fun e w'' => VOut A S K R P e ∧ ∃ q, w'' = w'.drewN q) := fun w' hb =>
    valid_all a0 l0 c0 A a1 l1 c1 S a2 l2 c2 K a3 l3 c3 R a4 l4 c4 P w' (hA.below hb) (hS.below hb) (hK.below hb) (hR.below hb) (hP.below hb) n0 n1 n2 n3 n4 t0 t4 hRw
  have HI : Hid (Ints .i64 w a0 A ∧ Ints .u64 w a1 S ∧ Ints .u8 w a2 K ∧ Ints .i64 w a3 R ∧ Ints .i64 w a4 P ∧ (a4 = none → l4 = 0 ∧ c4 = 0)) := ⟨hA, hS, hK, hR, hP, hz⟩
  have HN : Hid (A.length = l0 ∧ S.length = l1 ∧ K.length = l2 ∧ R.length = l3 ∧ P.length = l4) := ⟨n0, n1, n2, n3, n4⟩
  clear hA hS hK hR hP hz n0 n1 n2 n3 n4 hRw
  replace hX : Hid _ := hX
  have hp1 : ((p : Int) == 9223372036854775807) = false := beq_eq_false_iff_ne.2 (by omega)
  go_enter Try.func3, Try.ntmps3
  go_wp2_with fail
  refine (HB.out _).mono ?_
  clear HB
  rintro e w' ⟨⟨b, rfl⟩, rfl⟩
  cases b
  · go_wp2
    go_ret
    exact ⟨rfl, Below.refl _ _⟩
  go_wp2_with fail
  refine (HV.out _ (Below.refl _ _)).mono ?_
  clear HV
  rintro e w1 ⟨⟨b, rfl, hQV⟩, q, hq⟩
  have HB1 : Hid (Below w'.heap.size w' w1) := by rw [hq]; exact ⟨rfl, rfl, rfl, Nat.le_refl _, fun _ _ => rfl⟩
  clear hq
  cases b
  · clear hQV
    go_wp2
    go_ret
    exact ⟨rfl, HB1.out⟩
  have HQV : Hid (QV A S K R P) := hQV rfl
  clear hQV
  obtain rfl : l1 = l0 := by have h1 := HQV.out.lS; have h2 := HN.out; omega
  obtain rfl : l2 = l1 := by have h1 := HQV.out.lK; have h2 := HN.out; omega
  obtain rfl : l3 = l2 := by have h1 := HQV.out.lR; have h2 := HN.out; omega
  have hne := fun (w : World) => run_neq_slice_nil_any (P := Try.prog) w 22 2 a0 l3 c0 0 0 Try.underlying22
  go_upto_if 97 with fail
  go_cut [0, 13] from 96 to 104 (fun s0 s1 wc => ∃ a' c', s0 = .slice a' l3 c' ∧ Ints .i64 wc a' A ∧ Below w1.heap.size w1 wc)
  case first =>
    have hI := (HI.out.1).below HB1.out
    clear hne
    have HII : Hid (Ints .i64 w1 a0 A) := hI
    cases hao : a0.isNone
    · have hmk := run_make_row' (P := Try.prog) 22 2 (.int .i64 0) 8 Try.underlying22 Try.info2 rfl .i64 .i64 l3 (by omega) (by omega)
      obtain ⟨wk, hcp, hR, hB⟩ := copy_run' .i64 22 2 Try.underlying22 Try.size2 a0 hao c0 l3 A (by have h2 := HN.out; omega) w1 hI (.int .i64 0)
      have HR : Hid (Row .i64 2 wk w1.heap.size A) := hR
      have HBB : Hid (Below w1.heap.size w1 wk) := hB
      clear hR hB hI
      have hao2 : a0.isSome = true := by cases ha : a0 <;> simp_all
      go_wp2
      all_goals first | (have hc : a0.isSome = false := by assumption); (rw [hao2] at hc); (cases hc) | skip
      go_meet
      case rel => exact ⟨_, _, rfl, HR.out.ints, HBB.out⟩
    · clear hI
      have hao2 : a0.isSome = false := by cases ha : a0 <;> simp_all
      go_wp2
      all_goals first | (have hc : a0.isSome = true := by assumption); (rw [hao2] at hc); (cases hc) | skip
      go_meet
      case rel => exact ⟨a0, c0, rfl, HII.out, Below.refl _ _⟩
  case rest =>
  obtain ⟨d0, e0, rfl, hI, hB⟩ := hcut
  have HI0 : Hid (Ints .i64 wc d0 A) := hI
  have HC2 : Hid (Below w1.heap.size w1 wc) := hB
  have HB2 : Hid (Below w'.heap.size w' wc) := chain HB1.out hB
  clear hI hB hne
  obtain ⟨w2, rfl⟩ : ∃ w2 : World, w2 = wc := ⟨_, rfl⟩
  have hne := fun (w : World) => run_neq_slice_nil_any (P := Try.prog) w 23 37 a1 l3 c1 0 0 Try.underlying23
  go_upto_if 106 with fail
  go_cut [1, 14] from 105 to 113 (fun s0 s1 wc => ∃ a' c', s0 = .slice a' l3 c' ∧ Ints .u64 wc a' S ∧ Below w2.heap.size w2 wc)
  case first =>
    have hI := (HI.out.2.1).below HB2.out
    clear hne
    have HII : Hid (Ints .u64 w2 a1 S) := hI
    cases hao : a1.isNone
    · have hmk := run_make_row' (P := Try.prog) 23 37 (.int .u64 0) 8 Try.underlying23 Try.info37 rfl .i64 .i64 l3 (by omega) (by omega)
      obtain ⟨wk, hcp, hR, hB⟩ := copy_run' .u64 23 37 Try.underlying23 Try.size37 a1 hao c1 l3 S (by have h2 := HN.out; omega) w2 hI (.int .u64 0)
      have HR : Hid (Row .u64 37 wk w2.heap.size S) := hR
      have HBB : Hid (Below w2.heap.size w2 wk) := hB
      clear hR hB hI
      have hao2 : a1.isSome = true := by cases ha : a1 <;> simp_all
      go_wp2
      all_goals first | (have hc : a1.isSome = false := by assumption); (rw [hao2] at hc); (cases hc) | skip
      go_meet
      case rel => exact ⟨_, _, rfl, HR.out.ints, HBB.out⟩
    · clear hI
      have hao2 : a1.isSome = false := by cases ha : a1 <;> simp_all
      go_wp2
      all_goals first | (have hc : a1.isSome = true := by assumption); (rw [hao2] at hc); (cases hc) | skip
      go_meet
      case rel => exact ⟨a1, c1, rfl, HII.out, Below.refl _ _⟩
  case rest =>
  obtain ⟨d1, e1, rfl, hI, hB⟩ := hcut
  have HI1 : Hid (Ints .u64 wc d1 S) := hI
  have HC3 : Hid (Below w2.heap.size w2 wc) := hB
  have HB3 : Hid (Below w'.heap.size w' wc) := chain HB2.out hB
  clear hI hB hne
  obtain ⟨w3, rfl⟩ : ∃ w3 : World, w3 = wc := ⟨_, rfl⟩
  have hne := fun (w : World) => run_neq_slice_nil_any (P := Try.prog) w 24 5 a2 l3 c2 0 0 Try.underlying24
  go_upto_if 115 with fail
  go_cut [2, 15] from 114 to 122 (fun s0 s1 wc => ∃ a' c', s0 = .slice a' l3 c' ∧ Ints .u8 wc a' K ∧ Below w3.heap.size w3 wc)
  case first =>
    have hI := (HI.out.2.2.1).below HB3.out
    clear hne
    have HII : Hid (Ints .u8 w3 a2 K) := hI
    cases hao : a2.isNone
    · have hmk := run_make_row' (P := Try.prog) 24 5 (.int .u8 0) 1 Try.underlying24 Try.info5 rfl .i64 .i64 l3 (by omega) (by omega)
      obtain ⟨wk, hcp, hR, hB⟩ := copy_run' .u8 24 5 Try.underlying24 Try.size5 a2 hao c2 l3 K (by have h2 := HN.out; omega) w3 hI (.int .u8 0)
      have HR : Hid (Row .u8 5 wk w3.heap.size K) := hR
      have HBB : Hid (Below w3.heap.size w3 wk) := hB
      clear hR hB hI
      have hao2 : a2.isSome = true := by cases ha : a2 <;> simp_all
      go_wp2
      all_goals first | (have hc : a2.isSome = false := by assumption); (rw [hao2] at hc); (cases hc) | skip
      go_meet
      case rel => exact ⟨_, _, rfl, HR.out.ints, HBB.out⟩
    · clear hI
      have hao2 : a2.isSome = false := by cases ha : a2 <;> simp_all
      go_wp2
      all_goals first | (have hc : a2.isSome = true := by assumption); (rw [hao2] at hc); (cases hc) | skip
      go_meet
      case rel => exact ⟨a2, c2, rfl, HII.out, Below.refl _ _⟩
  case rest =>
  obtain ⟨d2, e2, rfl, hI, hB⟩ := hcut
  have HI2 : Hid (Ints .u8 wc d2 K) := hI
  have HC4 : Hid (Below w3.heap.size w3 wc) := hB
  have HB4 : Hid (Below w'.heap.size w' wc) := chain HB3.out hB
  clear hI hB hne
  obtain ⟨w4, rfl⟩ : ∃ w4 : World, w4 = wc := ⟨_, rfl⟩
  have hne := fun (w : World) => run_neq_slice_nil_any (P := Try.prog) w 25 3 a3 l3 c3 0 0 Try.underlying25
  go_upto_if 124 with fail
  go_cut [3, 16] from 123 to 131 (fun s0 s1 wc => ∃ a' c', s0 = .slice a' l3 c' ∧ Ints .i64 wc a' R ∧ Below w4.heap.size w4 wc)
  case first =>
    have hI := (HI.out.2.2.2.1).below HB4.out
    clear hne
    have HII : Hid (Ints .i64 w4 a3 R) := hI
    cases hao : a3.isNone
    · have hmk := run_make_row' (P := Try.prog) 25 3 (.int .i64 0) 8 Try.underlying25 Try.info3 rfl .i64 .i64 l3 (by omega) (by omega)
      obtain ⟨wk, hcp, hR, hB⟩ := copy_run' .i64 25 3 Try.underlying25 Try.size3 a3 hao c3 l3 R (by have h2 := HN.out; omega) w4 hI (.int .i64 0)
      have HR : Hid (Row .i64 3 wk w4.heap.size R) := hR
      have HBB : Hid (Below w4.heap.size w4 wk) := hB
      clear hR hB hI
      have hao2 : a3.isSome = true := by cases ha : a3 <;> simp_all
      go_wp2
      all_goals first | (have hc : a3.isSome = false := by assumption); (rw [hao2] at hc); (cases hc) | skip
      go_meet
      case rel => exact ⟨_, _, rfl, HR.out.ints, HBB.out⟩
    · clear hI
      have hao2 : a3.isSome = false := by cases ha : a3 <;> simp_all
      go_wp2
      all_goals first | (have hc : a3.isSome = true := by assumption); (rw [hao2] at hc); (cases hc) | skip
      go_meet
      case rel => exact ⟨a3, c3, rfl, HII.out, Below.refl _ _⟩
  case rest =>
  obtain ⟨d3, e3, rfl, hI, hB⟩ := hcut
  have HI3 : Hid (Ints .i64 wc d3 R) := hI
  have HC5 : Hid (Below w4.heap.size w4 wc) := hB
  have HB5 : Hid (Below w'.heap.size w' wc) := chain HB4.out hB
  clear hI hB hne
  obtain ⟨w5, rfl⟩ : ∃ w5 : World, w5 = wc := ⟨_, rfl⟩
  go_wp2_with fail
  refine (cloneInt_any a4 c4 l4 P _ (HI.out.2.2.2.2.1.below HB5.out) HN.out.2.2.2.2 t4 HI.out.2.2.2.2.2).mono ?_
  rintro e w6 ⟨ap, cp, rfl, hB6, hPl⟩
  have HB6 : Hid (Below w5.heap.size w5 w6) := hB6
  have HPl : Hid (l4 = 0 ∨ (ap = some ⟨w5.heap.size, 0, none⟩ ∧ Row .i64 3 w6 w5.heap.size P)) := hPl
  have HJ5 : Hid (Ints .i64 w5 d0 A ∧ Ints .u64 w5 d1 S ∧ Ints .u8 w5 d2 K ∧ Ints .i64 w5 d3 R ∧ Ints .i64 w5 a4 P ∧ Below w'.heap.size w' w5) :=
    ⟨((HI0.out.below HC3.out).below HC4.out).below HC5.out, (HI1.out.below HC4.out).below HC5.out, HI2.out.below HC5.out, HI3.out, HI.out.2.2.2.2.1.below HB5.out, HB5.out⟩
  -- the copies in w6
  have HJ : Hid (Ints .i64 w6 d0 A ∧ Ints .u64 w6 d1 S ∧ Ints .u8 w6 d2 K ∧ Ints .i64 w6 d3 R ∧ Ints .i64 w6 a4 P ∧ Below w'.heap.size w' w6) :=
    ⟨(((HI0.out.below HC3.out).below HC4.out).below HC5.out).below hB6, ((HI1.out.below HC4.out).below HC5.out).below hB6, (HI2.out.below HC5.out).below hB6, HI3.out.below hB6, HI.out.2.2.2.2.1.below (HB5.out.trans (hB6.mono HB5.out.size)), HB5.out.trans (hB6.mono HB5.out.size)⟩
  clear hB6 hPl HC2 HC3 HC4 HC5 HI0 HI1 HI2 HI3 HB1 HB2 HB3 HB4
  go_wp2_with fail
  refine (findEnd_n d2 e2 K d3 e3 R p l3 _ HJ.out.2.2.1 HJ.out.2.2.2.1 t3 HN.out.2.2.1 HN.out.2.2.2.1).mono ?_
  rintro e w6' ⟨⟨jw, rfl, hFE⟩, rfl⟩
  rcases hFE with ⟨rfl, hno⟩ | ⟨i0, rfl, hi0, hik, hir⟩
  · exact absurd ⟨hX.out.2.1, hX.out.2.2⟩ (hno iX hX.out.1)
  · obtain ⟨n', hn'⟩ : ∃ n', l3 = n' + 1 := ⟨l3 - 1, by have := HN.out; omega⟩
    have HN' : Hid (l3 = n' + 1) := hn'
    have hn3 : n' < l3 := by omega
    have HV : Hid (Val l3 l4 (evAt A S K R) (fun j => P.getD j 0)) := by have h := HQV.out.val; rw [HN.out.1, HN.out.2.2.2.2] at h; exact h
    have hi0l : i0 < l3 := by have := HN.out; omega
    have HEND : Hid (K.getD i0 0 = 2 ∧ R.getD i0 0 = (p : Int)) := ⟨hik, hir⟩
    have hpm : p + 1 < l4 := by
      have h1 := (HV.out.e i0 hi0l hik).2.1
      have h2 : (evAt A S K R i0).r = (p : Int) := hir
      omega
    clear hn' hik hir hi0
    obtain ⟨rfl, hRow⟩ := HPl.out.resolve_left (by omega)
    have HRow : Hid (Row .i64 3 w6' w5.heap.size P) := hRow
    clear hRow HPl
    have HNQ : Hid (∀ w, Ints .i64 w d0 A → Ints .u64 w d1 S → Ints .u8 w d2 K → Ints .i64 w d3 R → Calls Try.prog 8 #[.slice d0 l3 e0, .slice d1 l3 e1, .slice d2 l3 e2, .slice d3 l3 e3, .slice (some ⟨w5.heap.size, 0, none⟩) l4 cp] w fun e w' => e = .returned (.pointer (some ⟨w.heap.size + 1, 0, none⟩)) ∧ NewQ w w' l3 A S K R (.slice (some ⟨w5.heap.size, 0, none⟩) l4 cp)) := fun w i1 i2 i3 i4 =>
      newq_any d0 e0 A d1 e1 S d2 e2 K d3 e3 R (some ⟨w5.heap.size, 0, none⟩) l4 cp l3 w i1 i2 i3 i4 HN.out.1 HN.out.2.1 HN.out.2.2.1 HN.out.2.2.2.1 t3
    go_wp2_with fail
    refine (HNQ.out _ HJ.out.1 HJ.out.2.1 HJ.out.2.2.1 HJ.out.2.2.2.1).mono ?_
    clear HNQ
    rintro e w7 ⟨rfl, hN7⟩
    have HN7 : Hid (NewQ w6' w7 l3 A S K R (.slice (some ⟨w5.heap.size, 0, none⟩) l4 cp)) := hN7
    clear hN7
    have HCY : Hid (Calls Try.prog 9 #[.pointer (some ⟨w6'.heap.size + 1, 0, none⟩), .int .i64 p] w7 fun e w'' => e = .returned (.tuple #[.int .i64 (A.getD i0 0), .bool true]) ∧ Removed ⟨w6'.heap.size + 1, w6'.heap.size, w5.heap.size, l3, cp⟩ n' l4 i0 (p + 1) (evAt A S K R) (fun j => P.getD j 0) w7 w'') := by
      have h7 := HN7.out
      have h1 := HN.out.1
      have e := HN'.out
      have t := t3
      have hi := hi0l
      rw [e] at h7 h1 t hi ⊢
      exact cancel_yes h7 HQV.out h1 HN.out.2.2.2.2 t t4 HRow.out hi HEND.out.1 HEND.out.2
    go_wp2_with fail
    refine Calls.mono (show Calls Try.prog 9 #[.pointer (some ⟨w6'.heap.size + 1, 0, none⟩), .int .i64 p] w7 (fun e w'' => e = .returned (.tuple #[.int .i64 (A.getD i0 0), .bool true]) ∧ Removed ⟨w6'.heap.size + 1, w6'.heap.size, w5.heap.size, l3, cp⟩ n' l4 i0 (p + 1) (evAt A S K R) (fun j => P.getD j 0) w7 w'') from HCY.out) ?_
    clear HCY
    rintro e w8 ⟨rfl, L', P', hQ8, hF8, hG8⟩
    obtain ⟨σ, hs1, hs2, hs3⟩ := hG8.σ
    have HHP : Hid (Heap n' L') := hG8.heap
    have HQ8 : Hid (Q ⟨w6'.heap.size + 1, w6'.heap.size, w5.heap.size, l3, cp⟩ w8 n' L' l4 P') := hQ8
    have HS1 : Hid (∀ j, j < n' → σ j < l3 ∧ σ j ≠ i0 ∧ L' j = evAt A S K R (σ j)) := fun j hj => by have := hs1 j hj; rw [HN'.out]; exact this
    have HS2 : Hid (∀ a b, a < n' → b < n' → σ a = σ b → a = b) := hs2
    have HS3 : Hid _ := hs3
    have H58 : Hid (Below w5.heap.size w5 w8) := (HB6.out.trans (HN7.out.bel.mono HB6.out.size)).trans (hF8.below (by have h1 := HB6.out.size; have h2 := HN7.out.sz; omega) (by show w5.heap.size ≤ w6'.heap.size + 1; have := HB6.out.size; omega) (by show w5.heap.size ≤ w6'.heap.size; exact HB6.out.size) (Nat.le_refl _))
    have k0 : w8.cell? ⟨w6'.heap.size + 1, 0, none⟩ = some (.slice (some ⟨w6'.heap.size, 0, none⟩) n' l3) := hQ8.c0
    have k3 : w8.cell? ⟨w6'.heap.size + 1, 3, none⟩ = some (.slice (some ⟨w5.heap.size, 0, none⟩) l4 cp) := hQ8.c3
    have K0 : Hid _ := len_any (w6'.heap.size + 1) n' l3 (some ⟨w6'.heap.size, 0, none⟩) w8 k0
    have K3 : Hid _ := place_any (w6'.heap.size + 1) l4 cp (some ⟨w5.heap.size, 0, none⟩) w8 k3
    have KE : Hid _ := endIs_n d0 e0 A i0 l3 hi0l t3 HN.out.1 w8 (HJ5.out.1.below H58.out)
    obtain ⟨va, hva⟩ : ∃ f : Nat → Int, ∀ k, f k = A.getD (σ k) 0 := ⟨_, fun _ => rfl⟩
    obtain ⟨vs, hvs⟩ : ∃ f : Nat → Int, ∀ k, f k = S.getD (σ k) 0 := ⟨_, fun _ => rfl⟩
    obtain ⟨vk, hvk⟩ : ∃ f : Nat → Int, ∀ k, f k = K.getD (σ k) 0 := ⟨_, fun _ => rfl⟩
    obtain ⟨vr, hvr⟩ : ∃ f : Nat → Int, ∀ k, f k = R.getD (σ k) 0 := ⟨_, fun _ => rfl⟩
    have HVA : Hid (∀ k, va k = A.getD (σ k) 0) := hva
    have HVS : Hid (∀ k, vs k = S.getD (σ k) 0) := hvs
    have HVK : Hid (∀ k, vk k = K.getD (σ k) 0) := hvk
    have HVR : Hid (∀ k, vr k = R.getD (σ k) 0) := hvr
    clear hva hvs hvk hvr
    have HIT : Hid (∀ k wx, k < n' → Below w8.heap.size w8 wx → Calls Try.prog 13 #[.pointer (some ⟨w6'.heap.size + 1, 0, none⟩), .int .i64 k] wx fun e w' => e = .returned (.tuple #[.int .i64 (va k), .int .u64 (vs k), .int .u8 (vk k), .int .i64 (vr k)]) ∧ Below w8.heap.size w8 w') := by
      intro k wx hk hb
      have h := item_q ⟨w6'.heap.size + 1, w6'.heap.size, w5.heap.size, l3, cp⟩ n' l4 k L' P' w8 wx hQ8 hb hk
      rw [(hs1 k hk).2.2] at h
      rw [HVA.out, HVS.out, HVK.out, HVR.out]
      exact h
    have HPC : Hid (∀ k wx, k < l4 → Below w8.heap.size w8 wx → wx.cell? ⟨w5.heap.size, k, none⟩ = some (.int .i64 (P' k))) := by
      intro k wx hk hb
      rw [hb.cell (p := ⟨w5.heap.size, k, none⟩) hQ8.hp]
      exact hQ8.pl k hk
    clear hQ8 hF8 hG8 hs1 hs2 hs3 k0 k3
    have h44 : ((l4 : Int) != (l4 : Int)) = false := by simp
    have h33 : ((n' : Int) != (l3 : Int) - 1) = false := by simp; have := HN'.out; omega
    have hw0 : ¬ ((i0 : Int) < 0) := by omega
    go_wp2_with fail
    refine Calls.mono (show Calls Try.prog 10 #[.pointer (some ⟨w6'.heap.size + 1, 0, none⟩)] w8 (fun e w' => e = .returned (.int .i64 n') ∧ w' = w8) from K0.out) ?_
    rintro e w9 ⟨rfl, hw⟩
    rw [hw]; clear hw
    go_wp2_with fail
    refine Calls.mono (show Calls Try.prog 11 #[.pointer (some ⟨w6'.heap.size + 1, 0, none⟩)] w8 (fun e w' => e = .returned (.slice (some ⟨w5.heap.size, 0, none⟩) l4 cp) ∧ w' = w8) from K3.out) ?_
    rintro e w9' ⟨rfl, hw⟩
    rw [hw]; clear hw
    go_wp2_with fail
    refine Calls.mono (show Calls Try.prog 12 #[.int .i64 (A.getD i0 0), .bool true, .slice d0 l3 e0, .int .i64 i0] w8 (fun e w' => e = .returned (.bool true) ∧ w' = w8) from KE.out) ?_
    rintro e w9'' ⟨rfl, hw⟩
    rw [hw]; clear hw K0 K3 KE
    clear HQ8 HRow HB6 HB5 HJ
    go_wp2_with fail
    go_loopw [31] (fun i wr => ∃ k : Nat, k ≤ n' ∧ i = .int .i64 k ∧ Below w8.heap.size w8 wr) (fun i _ => n' - (intOf i).toNat)
    case atStart => exact ⟨0, Nat.zero_le _, rfl, Below.refl _ _⟩
    case round =>
      obtain ⟨k, hk, rfl, hBr⟩ := hrel
      have HBr : Hid (Below w8.heap.size w8 wr) := hBr
      clear hBr
      by_cases hlt : k < n'
      · have hsl : σ k < l3 := (HS1.out k hlt).1
        go_wp2_with fail
        refine (HIT.out k _ hlt HBr.out).mono ?_
        rintro e wi ⟨rfl, hBi⟩
        have HBi : Hid (Below w8.heap.size w8 wi) := hBi
        clear hBi HBr
        go_upto_if 248 with fail
        go_cut [] from 247 to 263 (fun wc => Below w8.heap.size w8 wc)
        case first =>
          by_cases hk0 : 0 < k
          · obtain ⟨pm, hpm'⟩ : ∃ pm : Nat, ((k : Int) - 1) / 2 = pm := ⟨(k - 1) / 2, by omega⟩
            have HPM : Hid (pm = (k - 1) / 2) := by show _ = _; omega
            have hpn : pm < n' := by omega
            have HHB : Hid (beforeB (va k) (vs k) (va pm) (vs pm) = false) := by
              have h := HHP.out k hk0 hlt
              rw [(HS1.out k hlt).2.2, ← HPM.out, (HS1.out pm hpn).2.2] at h
              show _ = _
              rw [HVA.out, HVS.out, HVA.out, HVS.out]
              exact h
            go_wp2_with fail
            refine (HIT.out pm _ hpn HBi.out).mono ?_
            rintro e wj ⟨rfl, hBj⟩
            have HBj : Hid (Below w8.heap.size w8 wj) := hBj
            clear hBj
            go_wp2_with fail
            refine (before_any _ _ _ _ _).mono ?_
            rintro e wj' ⟨rfl, hw⟩
            rw [hw, HHB.out]; clear hw
            go_wp2
            go_meet
            case rel => exact HBj.out
          · go_wp2
            go_meet
            case rel => exact HBi.out
        case rest =>
        have HBc : Hid (Below w8.heap.size w8 wc) := hcut
        clear hcut HBi
        obtain ⟨wd, rfl⟩ : ∃ wd : World, wd = wc := ⟨_, rfl⟩
        go_wp2_with fail
        go_loopw [40] (fun i wr => ∃ j : Nat, j ≤ k ∧ i = .int .i64 j ∧ Below w8.heap.size w8 wr) (fun i _ => k - (intOf i).toNat)
        case atStart => exact ⟨0, Nat.zero_le _, rfl, HBc.out⟩
        case round =>
          obtain ⟨j, hj, rfl, hBr⟩ := hrel
          have HBr : Hid (Below w8.heap.size w8 wr) := hBr
          clear hBr
          by_cases hjk : j < k
          · have hjn : j < n' := by omega
            have hne : (vs j == vs k) = false := by
              rw [beq_eq_false_iff_ne, HVS.out, HVS.out]
              intro he
              have := HV.out.ds (σ j) (σ k) (HS1.out j hjn).1 hsl he
              have := HS2.out j k hjn hlt this
              omega
            go_wp2_with fail
            refine (HIT.out j _ hjn HBr.out).mono ?_
            rintro e wj ⟨rfl, hBj⟩
            have HBj : Hid (Below w8.heap.size w8 wj) := hBj
            clear hBj
            go_wp2
            go_roundw
            case rel => exact ⟨j + 1, by omega, by go_num, HBj.out⟩
            case measure => simp [intOf]; omega
          · have H5r : Hid (Below w5.heap.size w5 wr) := H58.out.trans (HBr.out.mono H58.out.size)
            obtain ⟨f0, g0, rfl, _⟩ := HJ5.out.1.at (i := σ k) (by have := HN.out; omega)
            obtain ⟨f1, g1, rfl, _⟩ := HJ5.out.2.1.at (i := σ k) (by have := HN.out; omega)
            obtain ⟨f2, g2, rfl, _⟩ := HJ5.out.2.2.1.at (i := σ k) (by have := HN.out; omega)
            obtain ⟨f3, g3, rfl, _⟩ := HJ5.out.2.2.2.1.at (i := σ k) (by have := HN.out; omega)
            have cA : wr.cell? ⟨f0, g0 + σ k, none⟩ = some (.int .i64 (va k)) := by rw [HVA.out]; exact (HJ5.out.1.below H5r.out).cell (by have := HN.out; omega)
            have cK : wr.cell? ⟨f2, g2 + σ k, none⟩ = some (.int .u8 (vk k)) := by rw [HVK.out]; exact (HJ5.out.2.2.1.below H5r.out).cell (by have := HN.out; omega)
            have cR : wr.cell? ⟨f3, g3 + σ k, none⟩ = some (.int .i64 (vr k)) := by rw [HVR.out]; exact (HJ5.out.2.2.2.1.below H5r.out).cell (by have := HN.out; omega)
            have KS : Hid (Calls Try.prog 15 #[.slice (some ⟨f1, g1, none⟩) l3 e1, .int .u64 (vs k)] wr (fun e w' => e = .returned (.int .i64 (σ k)) ∧ w' = wr)) := by
              rw [HVS.out]
              exact findSeq_n (some ⟨f1, g1, none⟩) e1 S (σ k) l3 wr (HJ5.out.2.1.below H5r.out) t3 HN.out.2.1 hsl HV.out.ds
            have hse : ((σ k : Int) == (i0 : Int)) = false := beq_eq_false_iff_ne.2 (by have := (HS1.out k hlt).2.1; omega)
            have q0 : (va k != va k) = false := by simp
            have q2 : (vk k != vk k) = false := by simp
            have q3 : (vr k != vr k) = false := by simp
            go_wp2_with fail
            refine Calls.mono (show Calls Try.prog 15 #[.slice (some ⟨f1, g1, none⟩) l3 e1, .int .u64 (vs k)] wr (fun e w' => e = .returned (.int .i64 (σ k)) ∧ w' = wr) from KS.out) ?_
            rintro e wj ⟨rfl, hw⟩
            rw [hw]; clear hw KS
            go_wp2
            go_roundw
            case rel => exact ⟨k + 1, by omega, by go_num, HBr.out⟩
            case measure => simp [intOf]; omega
      · go_wp2_with fail
        obtain ⟨wo, rfl⟩ : ∃ wo : World, wo = wr := ⟨_, rfl⟩
        go_loopw [46] (fun i wr => ∃ k : Nat, 1 ≤ k ∧ k ≤ l4 ∧ i = .int .i64 k ∧ Below w8.heap.size w8 wr) (fun i _ => l4 - (intOf i).toNat)
        case atStart => exact ⟨1, Nat.le_refl _, by omega, rfl, HBr.out⟩
        case round =>
          obtain ⟨k2, hk1, hk2, rfl, hBr⟩ := hrel
          have HBr2 : Hid (Below w8.heap.size w8 wr) := hBr
          clear hBr
          have H5r : Hid (Below w5.heap.size w5 wr) := H58.out.trans (HBr2.out.mono H58.out.size)
          by_cases hlt2 : k2 < l4
          · obtain ⟨f4, g4, rfl, _⟩ := HJ5.out.2.2.2.2.1.at (i := k2) (by have := HN.out; omega)
            have cP : wr.cell? ⟨f4, g4 + k2, none⟩ = some (.int .i64 (P.getD k2 0)) := (HJ5.out.2.2.2.2.1.below H5r.out).cell (by have := HN.out; omega)
            have cP' : wr.cell? ⟨w5.heap.size, k2, none⟩ = some (.int .i64 (P' k2)) := HPC.out k2 wr hlt2 HBr2.out
            obtain ⟨h3a, h3b⟩ := HS3.out k2 hk1 hlt2
            by_cases hkp : k2 = p + 1
            · have e1 : P' k2 = -1 := h3a (.inl hkp)
              rw [e1] at cP'
              have hb1 : ((k2 : Int) == (p : Int) + 1) = true := beq_iff_eq.2 (by omega)
              clear h3a h3b e1 hkp
              generalize w5.heap.size = g5 at *
              go_wp2
              go_roundw
              case rel => exact ⟨k2 + 1, by omega, by omega, by go_num, HBr2.out⟩
              case measure => simp [intOf]; omega
            · have hb1 : ((k2 : Int) == (p : Int) + 1) = false := beq_eq_false_iff_ne.2 (by omega)
              by_cases hPm : P.getD k2 0 = -1
              · have e1 : P' k2 = -1 := h3a (.inr hPm)
                rw [e1] at cP'
                rw [hPm] at cP
                clear h3a h3b e1 hkp hPm
                generalize w5.heap.size = g5 at *
                go_wp2
                go_roundw
                case rel => exact ⟨k2 + 1, by omega, by omega, by go_num, HBr2.out⟩
                case measure => simp [intOf]; omega
              · obtain ⟨y1, y2, y3, y4, y5⟩ := h3b hkp hPm
                have hf := (HV.out.f k2 hk1 hlt2).resolve_left hPm
                obtain ⟨z1, z2, z3, z4⟩ := hf
                obtain ⟨xn, hxn⟩ : ∃ xn : Nat, P' k2 = xn := ⟨(P' k2).toNat, by omega⟩
                obtain ⟨yn, hyn⟩ : ∃ yn : Nat, P.getD k2 0 = yn := ⟨(P.getD k2 0).toNat, by omega⟩
                have hxl : xn < n' := by omega
                have hyl : yn < l3 := by omega
                rw [hxn] at cP' y5
                rw [hyn] at cP y5
                have hsx : σ xn = yn := by have := y5; simpa using this
                have hkk : K.getD yn 0 = 2 := by have h := z3; simp only [hyn] at h; exact h
                have hrr : R.getD yn 0 = (k2 : Int) - 1 := by have h := z4; simp only [hyn] at h; exact h
                have hk2v : vk xn = 2 := by rw [HVK.out, hsx]; exact hkk
                have hr2v : vr xn = (k2 : Int) - 1 := by rw [HVR.out, hsx]; exact hrr
                have hsv : vs xn = S.getD yn 0 := by rw [HVS.out, hsx]
                have ki := HIT.out xn wr hxl HBr2.out
                rw [hk2v, hr2v, hsv] at ki
                have KI : Hid (Calls Try.prog 13 #[.pointer (some ⟨w6'.heap.size + 1, 0, none⟩), .int .i64 xn] wr (fun e w' => e = .returned (.tuple #[.int .i64 (va xn), .int .u64 (S.getD yn 0), .int .u8 2, .int .i64 ((k2 : Int) - 1)]) ∧ Below w8.heap.size w8 w')) := ki
                clear ki hk2v hr2v hsv
                obtain ⟨f1, g1, rfl, _⟩ := HJ5.out.2.1.at (i := yn) (by have := HN.out; omega)
                have HcS : Hid (∀ wx, Below w8.heap.size w8 wx → wx.cell? ⟨f1, g1 + yn, none⟩ = some (.int .u64 (S.getD yn 0))) := fun wx hb => (HJ5.out.2.1.below (H58.out.trans (hb.mono H58.out.size))).cell (by have := HN.out; omega)
                have HcP : Hid (∀ wx, Below w8.heap.size w8 wx → wx.cell? ⟨f4, g4 + k2, none⟩ = some (.int .i64 (yn : Int))) := fun wx hb => by rw [← hyn]; exact (HJ5.out.2.2.2.2.1.below (H58.out.trans (hb.mono H58.out.size))).cell (by have := HN.out; omega)
                have hyb : ((yn : Int) == -1) = false := beq_eq_false_iff_ne.2 (by omega)
                have hr2 : ((k2 : Int) - 1 != (k2 : Int) - 1) = false := by simp
                clear h3a h3b hkp hPm y1 y2 y3 y4 y5 z1 z2 z3 z4 hxn hyn hsx hkk hrr
                generalize S.getD yn 0 = vsy at *
                have q0 : (vsy != vsy) = false := by simp
                obtain ⟨g6, hg6⟩ : ∃ g6, w6'.heap.size + 1 = g6 := ⟨_, rfl⟩
                have HG6 : Hid (w6'.heap.size + 1 = g6) := hg6
                clear hg6
                go_wp2_with fail
                refine Calls.mono (show Calls Try.prog 13 #[.pointer (some ⟨w6'.heap.size + 1, 0, none⟩), .int .i64 xn] wr (fun e w' => e = .returned (.tuple #[.int .i64 (va xn), .int .u64 vsy, .int .u8 2, .int .i64 ((k2 : Int) - 1)]) ∧ Below w8.heap.size w8 w') from KI.out) ?_
                rintro e wj ⟨rfl, hBj⟩
                have HBj : Hid (Below w8.heap.size w8 wj) := hBj
                have cS2 := HcS.out wj hBj
                have cP2 := HcP.out wj hBj
                clear hBj KI cP cP'
                go_wp2
                go_roundw
                case rel => exact ⟨k2 + 1, by omega, by omega, by go_num, HBj.out⟩
                case measure => simp [intOf]; omega
          · go_wp2
            go_ret
            exact ⟨rfl, HJ5.out.2.2.2.2.2.trans (H5r.out.mono HJ5.out.2.2.2.2.2.size)⟩

end Go.Proofs.Qxb6614809a
