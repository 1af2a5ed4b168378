/-
  FnTallyOfScriptCountsDistinctNames: the walk.
-/
import Derived.Test.Qxb6615782aTalD
import Derived.Deep.QuietTactic
import Derived.BigQuiet
import Derived.Deep.Draws
namespace Go.Proofs.Qxb6615782a.tal
open Go.RowKit Go.Maps
set_option linter.unusedVariables false

theorem Strs.cell {w wr : World} {b off n : Nat} {N : Nat → ByteArray} (hl : b < w.heap.size) (hc : ∀ i, i < n → w.cell? ⟨b, off + i, none⟩ = some (.string (N i))) (hb : Below w.heap.size w wr) {i : Nat} (hi : i < n) : wr.cell? ⟨b, off + i, none⟩ = some (.string (N i)) :=
  (hb.cell (p := ⟨b, off + i, none⟩) hl).trans (hc i hi)
theorem Inv.bel {w wr : World} {c : Nat} {own : ByteArray} {N : Nat → ByteArray} {k : Nat} {z : Int} (h : Inv w wr c own N k z) : Below w.heap.size w wr := by
  obtain ⟨p, m, D, h1, h2, h3, h4, h5⟩ := h
  exact h5

theorem dadd {w w1 w2 : World} {q q2 : Nat} (h1 : w1 = w.drewN q) (h2 : w2 = w1.drewN q2) : ∃ q, w2 = w.drewN q := ⟨q + q2, by rw [h2, h1]; simp [World.drewN, Nat.add_assoc]⟩

set_option maxRecDepth 100000 in
set_option maxHeartbeats 2000000 in
theorem tal_main (own : ByteArray) (a : Option Addr) (n cap : Nat) (N : Nat → ByteArray) (w : World) (h : Strs w a n N) (hn : n ≤ 1024) (ho : own.size ≤ 262144) :
    Calls Try.prog 6 #[.string own, .slice a n cap] w fun e w' => e = .returned (.bool true) ∧ Below w.heap.size w w' := by
  have HB : Hid (∀ w, Strs w a n N → Calls Try.prog 14 #[.string own, .slice a n cap] w fun e w' => BOut n N e ∧ w' = w) := fun w h => bytes14 own a n cap N w (by unfold maxLen; omega) (by unfold maxLen; omega) h
  have HS : Hid (Strs w a n N) := h
  clear h
  go_enter Try.func6, Try.ntmps6
  go_wp2_with fail
  refine (HB.out _ HS.out).mono ?_
  rintro e w' ⟨rfl | ⟨rfl, hN⟩, hw⟩
  all_goals (rw [hw]; clear hw)
  · go_wp2
    go_ret
    exact ⟨rfl, Below.refl _ _⟩
  have HN : Hid (∀ i, i < n → (N i).size ≤ 1048576) := hN
  clear HB hN
  go_wp2_with fail
  go_loop [5, 6] (fun t i => ∃ k : Nat, k ≤ n ∧ i = .int .i64 k ∧ ∃ z : Int, t = .int .i64 z ∧ 0 ≤ z ∧ z ≤ 1048576) (fun _ i => n - (intOf i).toNat)
  case atStart => exact ⟨0, Nat.zero_le _, rfl, _, rfl, by omega, by omega⟩
  case round =>
    obtain ⟨k, hk, rfl, z, rfl, hz0, hz1⟩ := hrel
    by_cases hlt : k < n
    · obtain ⟨b, off, rfl, hl, hc⟩ := HS.out.at hlt
      have hck := hc k hlt
      have hsz := HN.out k hlt
      clear hc
      generalize N k = s at *
      go_wp2
      · go_ret
        exact ⟨rfl, Below.refl _ _⟩
      · go_round
        case rel => exact ⟨k + 1, by omega, by go_num, _, rfl, by omega, by omega⟩
        case measure => simp [intOf]; omega
    · go_wp2_with fail
      refine (Inv.start own N (by unfold maxLen; omega) w).mono ?_
      rintro e w1 ⟨c, rfl, h0⟩
      have HI0 : Hid (Inv w w1 c own N 0 1) := h0
      clear h0
      go_wp2_with fail
      go_loopw [8, 9] (fun d i wr => ∃ k : Nat, k ≤ n ∧ i = .int .i64 k ∧ ∃ z : Int, d = .int .i64 z ∧ Inv w wr c own N k z) (fun _ i _ => n - (intOf i).toNat)
      case atStart => exact ⟨0, Nat.zero_le _, rfl, 1, rfl, HI0.out⟩
      case round =>
        clear HI0
        obtain ⟨k, hk, rfl, z, rfl, hI⟩ := hrel
        have HI : Hid (Inv w wr c own N k z) := hI
        have hzb := hI.bound
        clear hI
        have hzz : (z != z) = false := by simp
        have hze : (z == z) = true := by simp
        by_cases hlt : k < n
        · obtain ⟨b, off, rfl, hl, hc⟩ := HS.out.at hlt
          have HC : Hid (∀ (wr : World), Below w.heap.size w wr → ∀ i, i < n → wr.cell? ⟨b, off + i, none⟩ = some (.string (N i))) := fun wr hb i hi => Strs.cell hl hc hb hi
          have hck := HC.out wr HI.out.bel k hlt
          have HT : Hid _ := HI.out.tally (by omega) (HS.out.2 k hlt)
          have HBL : Hid (Below w.heap.size w wr) := HI.out.bel
          clear hc HI
          obtain ⟨s, hs⟩ : ∃ s, N k = s := ⟨_, rfl⟩
          have HNK : Hid (N k = s) := hs
          rw [hs] at hck HT
          clear hs
          have hss : (s.toList != s.toList) = false := by simp
          go_wp2_with fail
          refine Calls.mono (show Calls Try.prog 16 _ _ _ from HT.out) ?_
          rintro e w2 ⟨g, rfl, hg, hI⟩
          have HI : Hid (Inv w w2 c own N (k + 1) (if met own N k s then z else z + 1)) := hI
          have hck2 : w2.cell? ⟨b, off + k, none⟩ = some (.string s) := by rw [HC.out w2 hI.bel k hlt, HNK.out]
          clear hI hck HT
          go_wp2_with fail
          go_quiet ((go_at_call 17; exact Calls.quiet_of_same (name17 g s _ hg)))
          go_wp2_with fail
          obtain ⟨wo, hwo⟩ : ∃ wo, w2.drewN nq = wo := ⟨_, rfl⟩
          have HI3 : Hid (Inv w wo c own N (k + 1) (if met own N k s then z else z + 1)) := by rw [← hwo]; exact HI.out.drewN _
          rw [hwo]
          clear hwo HI hg hck2 hss
          rw [str_eq]
          go_loopw [11, 12] (fun b j wr => ∃ jj : Nat, jj ≤ k ∧ j = .int .i64 jj ∧ (∃ bb, b = .bool bb ∧ bb = (decide (s = own) || (List.range jj).any (fun j => decide (N j = s)))) ∧ ∃ q, wr = wo.drewN q) (fun _ j _ => k - (intOf j).toNat)
          case atStart => exact ⟨0, Nat.zero_le _, rfl, ⟨_, rfl, by simp⟩, 0, rfl⟩
          case round =>
            obtain ⟨jj, hjj, rfl, ⟨bb, rfl, hbb⟩, q, hq⟩ := hrel
            have HQ : Hid (wr = wo.drewN q) := hq
            have HBB : Hid (bb = (decide (s = own) || (List.range jj).any (fun j => decide (N j = s)))) := hbb
            have HIr : Hid (Inv w wr c own N (k + 1) (if met own N k s then z else z + 1)) := by rw [hq]; exact HI3.out.drewN _
            clear hq hbb
            by_cases hj : jj < k
            · have d1 := HC.out wr HIr.out.bel jj (by omega)
              have d2 := HC.out wr HIr.out.bel k hlt
              rw [HNK.out] at d2
              obtain ⟨s', hs'⟩ : ∃ s', N jj = s' := ⟨_, rfl⟩
              have HJ : Hid (N jj = s') := hs'
              rw [hs'] at d1
              clear hs'
              by_cases e : s' = s
              · have e1 : (s'.toList == s.toList) = true := by rw [str_eq]; simp [e]
                have HE : Hid (s' = s) := e
                clear e
                go_wp2_with fail
                go_quiet (fail)
                go_wp2_with fail
                go_roundw
                case rel => exact ⟨jj + 1, by omega, by go_num, ⟨true, rfl, by rw [any_succ, HJ.out, HE.out]; simp⟩, dadd HQ.out rfl⟩
                case measure => simp [intOf]; omega
              · have e1 : (s'.toList == s.toList) = false := by rw [str_eq]; simp [e]
                have HE : Hid (¬ s' = s) := e
                clear e
                go_wp2_with fail
                go_quiet (fail)
                go_wp2_with fail
                go_roundw
                case rel => exact ⟨jj + 1, by omega, by go_num, ⟨bb, rfl, by rw [any_succ, HJ.out, HBB.out]; simp [HE.out]⟩, dadd HQ.out rfl⟩
                case measure => simp [intOf]; omega
            · obtain rfl : jj = k := by omega
              have HM : Hid (met own N jj s = bb) := HBB.out.symm
              rw [HM.out] at HIr
              clear HBB HQ HI3
              cases bb
              · have HIr2 : Hid (Inv w wr c own N (jj + 1) (z + 1)) := HIr.out
                have hz1 : ((z + 1) != (z + 1)) = false := by simp
                clear HIr
                go_wp2_with fail
                refine HIr2.out.len.mono ?_
                rintro e w' ⟨rfl, hw⟩
                rw [hw]; clear hw
                go_wp2_with fail
                go_roundw
                case rel => exact ⟨jj + 1, by omega, by go_num, z + 1, by go_num, HIr2.out⟩
                case measure => simp [intOf]; omega
              · have HIr2 : Hid (Inv w wr c own N (jj + 1) z) := HIr.out
                clear HIr
                go_wp2_with fail
                refine HIr2.out.len.mono ?_
                rintro e w' ⟨rfl, hw⟩
                rw [hw]; clear hw
                go_wp2_with fail
                go_roundw
                case rel => exact ⟨jj + 1, by omega, by go_num, z, rfl, HIr2.out⟩
                case measure => simp [intOf]; omega
        · go_wp2_with fail
          refine HI.out.len.mono ?_
          rintro e w' ⟨rfl, hw⟩
          rw [hw]; clear hw
          go_wp2_with fail
          go_ret
          exact ⟨rfl, HI.out.bel⟩

set_option maxRecDepth 100000 in
set_option maxHeartbeats 1000000 in
theorem tal_early (own : ByteArray) (a : Option Addr) (n cap : Nat) (N : Nat → ByteArray) (w : World) (h : Strs w a n N) (ho : own.size ≤ maxLen) (hn : n ≤ maxLen)
    (hh : (262144 : Int) < (own.size : Int) ∨ (¬ (262144 : Int) < (own.size : Int) ∧ (1024 : Int) < (n : Int))) :
    Calls Try.prog 6 #[.string own, .slice a n cap] w fun e w' => e = .returned (.bool true) ∧ Below w.heap.size w w' := by
  have HB : Hid (Calls Try.prog 14 #[.string own, .slice a n cap] w fun e w' => BOut n N e ∧ w' = w) := bytes14 own a n cap N w ho hn h
  clear h
  unfold maxLen at ho hn
  rcases hh with hh | ⟨h0, hh⟩
  all_goals
    go_enter Try.func6, Try.ntmps6
    go_wp2_with fail
    refine Calls.mono (show Calls Try.prog 14 _ _ _ from HB.out) ?_
    rintro e w' ⟨rfl | ⟨rfl, hN⟩, hw⟩
    all_goals (rw [hw]; clear hw)
    · go_wp2
      go_ret
      exact ⟨rfl, Below.refl _ _⟩
    · clear hN
      go_wp2
      go_ret
      exact ⟨rfl, Below.refl _ _⟩
end Go.Proofs.Qxb6615782a.tal
