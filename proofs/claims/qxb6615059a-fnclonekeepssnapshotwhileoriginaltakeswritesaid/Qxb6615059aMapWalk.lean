/-
  zzMap, the walk; zzSameBytes.
-/
import Derived.Test.Qxb6615059aMap
namespace Go.Proofs.Qxb6615059a
open Go.RowKit Go.Maps
set_option linter.unusedVariables false

set_option maxRecDepth 100000 in
set_option maxHeartbeats 1000000 in
theorem map_some (ad : Addr) (m c : Nat) (ks : Nat → ByteArray) (va : Nat → Option Addr) (zs : Nat → List Int) (vc : Nat → Nat) (w w1 : World) (cs : Nat → DataW Unit) (h : PIn w (some ad) m ks va zs vc) (hm : m ≤ 65536)
    (hg : ∀ j, j < m → RR w1 (.slice (va j) (zs j).length (vc j)) = some (cs j, [])) :
    Calls Try.prog 8 #[.slice (some ad) m c] w fun e w' => e = .returned (.map (some w.heap.size)) ∧ w'.ownsMap Try.prog 9 (RR w1) w.heap.size m (DD ks cs m) ∧ Below w.heap.size w w' := by
  have hn := fun (w : World) => Lib.run_eql_slice_nil (P := Try.prog) w 22 37 (some ad) m c 0 0 Try.underlying22
  have hmm := run_makeMap_hint (m : Int)
  have HP : Hid (PIn w (some ad) m ks va zs vc ∧ ∀ j, j < m → RR w1 (.slice (va j) (zs j).length (vc j)) = some (cs j, [])) := ⟨h, hg⟩
  clear h hg
  go_enter Try.func8, Try.ntmps8
  go_wp2
  clear hn hmm
  go_loopw [4] (fun i wr => ∃ k : Nat, k ≤ m ∧ i = .int .i64 k ∧ wr.ownsMap Try.prog 9 (RR w1) w.heap.size k (DD ks cs k) ∧ Below w.heap.size w wr) (fun i _ => m - (intOf i).toNat)
  case atStart => exact ⟨0, Nat.zero_le _, rfl, World.ownsMap_made _ _ _ _, (Below.refl _ _).alloc (Nat.le_refl _) _⟩
  case round =>
    obtain ⟨k, hk, rfl, hown, hbel⟩ := hrel
    have HO : Hid (wr.ownsMap Try.prog 9 (RR w1) w.heap.size k (DD ks cs k) ∧ Below w.heap.size w wr) := ⟨hown, hbel⟩
    by_cases hlt : k < m
    · have hP := HP.out.1.below hbel
      obtain ⟨b, off, e, hc⟩ := hP.at (by omega)
      injection e with e
      subst e
      obtain ⟨hck, hcv⟩ := hc k hlt
      have hkey := key_of (HP.out.1.kl k hlt)
      obtain ⟨w2, hrun, hown2, hgrow⟩ := hown.drew.update law Try.underlying30 (by unfold maxLen; omega) hkey (HP.out.2 k hlt)
      have hbel2 : Below w.heap.size w w2 := hbel.drew.grown hgrow hbel.size (fun j hj => by injection hj with hj; omega)
      have hck2 := hck
      have hcv2 := hcv
      obtain ⟨b', off', e', hc'⟩ := HP.out.1.at (by omega)
      injection e' with e'
      injection e' with e1 e2
      subst e1 e2
      have hbw : b < w.heap.size := cell_lt (hc' k hlt).1
      have g1 : w2.cell? ⟨b, off + k * 2, none⟩ = some (.string (ks k)) := by rw [hbel2.cell (p := ⟨b, off + k * 2, none⟩) hbw]; exact (hc' k hlt).1
      have g2 : w2.cell? ⟨b, off + k * 2 + 1, none⟩ = some (.slice (va k) (zs k).length (vc k)) := by rw [hbel2.cell (p := ⟨b, off + k * 2 + 1, none⟩) hbw]; exact (hc' k hlt).2
      have HE : Hid (w2.ownsMap Try.prog 9 (RR w1) w.heap.size (k + 1) (DD ks cs (k + 1)) ∧ Below w.heap.size w w2) := ⟨hown2, hbel2⟩
      clear hc hc' hP hkey hown hbel hown2 hbel2 hgrow hck2 hcv2
      have hk0 : (0 : Int) ≤ (k : Int) := by omega
      have hk1 : (k : Int) < (m : Int) := by omega
      generalize ks k = key at *
      generalize va k = vk at *
      generalize (zs k).length = zl at *
      generalize vc k = vck at *
      go_wp2_with fail
      go_region_held3 (fun w' => w'.cell? ⟨b, off + k * 2, none⟩ = some (.string key) ∧ w'.cell? ⟨b, off + k * 2 + 1, none⟩ = some (.slice vk zl vck)) (go_keep) (fail)
      go_wp2
      go_roundw
      case rel => exact ⟨k + 1, by omega, by go_num, HE.out⟩
      case measure => simp [intOf]; omega
    · obtain rfl : k = m := by omega
      clear hown hbel
      go_wp2
      go_ret
      exact ⟨rfl, HO.out.1, HO.out.2⟩

set_option maxRecDepth 100000 in
set_option maxHeartbeats 1000000 in
theorem same_any (a1 a2 : Option Addr) (c1 c2 n : Nat) (zs : List Int) (w : World) (h1 : Ints .u8 w a1 zs) (h2 : Ints .u8 w a2 zs) (hi : a1.isNone = a2.isNone) (hl : zs.length = n) (hn : n ≤ 1048576) :
    Calls Try.prog 12 #[.slice a1 n c1, .slice a2 n c2] w fun e w' => e = .returned (.bool true) ∧ ∃ q, w' = w.drewN q := by
  have e1 := fun (w : World) => Lib.run_eql_slice_nil (P := Try.prog) w 25 5 a1 n c1 0 0 Try.underlying25
  have e2 := fun (w : World) => Lib.run_eql_slice_nil (P := Try.prog) w 25 5 a2 n c2 0 0 Try.underlying25
  have HI : Hid (Ints .u8 w a1 zs ∧ Ints .u8 w a2 zs ∧ zs.length = n) := ⟨h1, h2, hl⟩
  rw [hi] at e1
  clear h1 h2 hl hi
  generalize a2.isNone = nb at *
  have hbb : (nb != nb) = false := by simp
  have hnn : ((n : Int) != (n : Int)) = false := by simp
  go_enter Try.func12, Try.ntmps12
  go_wp2
  clear e1 e2
  go_loopw [5] (fun i wr => ∃ k : Nat, k ≤ n ∧ i = .int .i64 k ∧ ∃ q, wr = w.drewN q) (fun i _ => n - (intOf i).toNat)
  case atStart => exact ⟨0, Nat.zero_le _, rfl, 0, rfl⟩
  case round =>
    obtain ⟨k, hk, rfl, q, hq⟩ := hrel
    have HQ : Hid (wr = w.drewN q) := hq
    by_cases hlt : k < n
    · obtain ⟨b1, o1, rfl, _⟩ := HI.out.1.at (i := k) (by have := HI.out.2.2; omega)
      obtain ⟨b2, o2, rfl, _⟩ := HI.out.2.1.at (i := k) (by have := HI.out.2.2; omega)
      have g1 : wr.cell? ⟨b1, o1 + k, none⟩ = some (.int .u8 (zs.getD k 0)) := by rw [hq, World.cell?_drewN]; exact HI.out.1.cell (by have := HI.out.2.2; omega)
      have g2 : wr.cell? ⟨b2, o2 + k, none⟩ = some (.int .u8 (zs.getD k 0)) := by rw [hq, World.cell?_drewN]; exact HI.out.2.1.cell (by have := HI.out.2.2; omega)
      clear hq
      generalize zs.getD k 0 = x at *
      have hxx : (x != x) = false := by simp
      go_wp2_with fail
      go_quiet (fail)
      go_wp2
      go_roundw
      case rel => exact ⟨k + 1, by omega, by go_num, drewN_add HQ.out rfl⟩
      case measure => simp [intOf]; omega
    · clear hq
      go_wp2
      go_ret
      exact ⟨rfl, q, HQ.out⟩

end Go.Proofs.Qxb6615059a
