/-
  zzQueueValid: what a 'true' says.
-/
import Derived.Test.Qxb6614809aLeaf2
namespace Go.Proofs.Qxb6614809a
open Go.RowKit
set_option linter.unusedVariables false

/-- What the first loop has seen of place i. -/
def SeenAt (A S K R P : List Int) (i : Nat) : Prop :=
  (0 < i → beforeB (A.getD i 0) (S.getD i 0) (A.getD ((i - 1) / 2) 0) (S.getD ((i - 1) / 2) 0) = false) ∧
  (∀ j, j < i → S.getD j 0 ≠ S.getD i 0) ∧
  (K.getD i 0 = 2 → 0 ≤ R.getD i 0 ∧ R.getD i 0 + 1 < P.length ∧ P.getD ((R.getD i 0 + 1).toNat) 0 = i)
def Seen (A S K R P : List Int) (k : Nat) : Prop := ∀ i, i < k → SeenAt A S K R P i
/-- What the last loop has seen of place k. -/
def PlcAt (A K R P : List Int) (k : Nat) : Prop :=
  P.getD k 0 = -1 ∨ (0 ≤ P.getD k 0 ∧ P.getD k 0 < A.length ∧ K.getD (P.getD k 0).toNat 0 = 2 ∧ R.getD (P.getD k 0).toNat 0 = (k : Int) - 1)
def Plc (A K R P : List Int) (k : Nat) : Prop := ∀ i, 1 ≤ i → i < k → PlcAt A K R P i
structure QV (A S K R P : List Int) : Prop where
  lS : S.length = A.length
  lK : K.length = A.length
  lR : R.length = A.length
  seen : Seen A S K R P A.length
  plc : Plc A K R P P.length
def NoDup (S : List Int) (k m : Nat) : Prop := ∀ j, j < m → S.getD j 0 ≠ S.getD k 0

theorem Seen.zero (A S K R P : List Int) : Seen A S K R P 0 := fun i h => absurd h (by omega)
theorem Seen.succ {A S K R P : List Int} {k : Nat} (h : Seen A S K R P k) (h' : SeenAt A S K R P k) : Seen A S K R P (k + 1) := fun i hi => by
  rcases Nat.lt_succ_iff_lt_or_eq.1 hi with h1 | rfl
  · exact h i h1
  · exact h'
theorem Plc.one (A K R P : List Int) : Plc A K R P 1 := fun i h h' => absurd h (by omega)
theorem Plc.succ {A K R P : List Int} {k : Nat} (h : Plc A K R P k) (h' : PlcAt A K R P k) : Plc A K R P (k + 1) := fun i hi hi' => by
  rcases Nat.lt_succ_iff_lt_or_eq.1 hi' with h1 | rfl
  · exact h i hi h1
  · exact h'
theorem NoDup.zero (S : List Int) (k : Nat) : NoDup S k 0 := fun i h => absurd h (by omega)
theorem NoDup.succ {S : List Int} {k m : Nat} (h : NoDup S k m) (h' : S.getD m 0 ≠ S.getD k 0) : NoDup S k (m + 1) := fun i hi => by
  rcases Nat.lt_succ_iff_lt_or_eq.1 hi with h1 | rfl
  · exact h i h1
  · exact h'

def VOut (A S K R P : List Int) (e : Ending) : Prop := ∃ b : Bool, e = .returned (.bool b) ∧ (b = true → QV A S K R P)
theorem VOut.no (A S K R P : List Int) : VOut A S K R P (.returned (.bool false)) := ⟨false, rfl, fun h => by cases h⟩
theorem VOut.yes {A S K R P : List Int} (h : QV A S K R P) : VOut A S K R P (.returned (.bool true)) := ⟨true, rfl, fun _ => h⟩
theorem Ints.drewN {k : IntKind} {w : World} {a : Option Addr} {zs : List Int} (h : Ints k w a zs) (q : Nat) : Ints k (w.drewN q) a zs := by
  rcases h with h | ⟨b, off, ha, h⟩
  · exact .inl h
  · exact .inr ⟨b, off, ha, fun i hi => by rw [← h i hi]; simp⟩
theorem drewN_add {w w1 w2 : World} {q q2 : Nat} (h1 : w1 = w.drewN q) (h2 : w2 = w1.drewN q2) : ∃ q, w2 = w.drewN q := ⟨q + q2, by rw [h2, h1, World.drewN_drewN]⟩

set_option maxRecDepth 100000 in
set_option maxHeartbeats 1000000 in
theorem valid_any (a0 : Option Addr) (c0 : Nat) (A : List Int) (a1 : Option Addr) (c1 : Nat) (S : List Int) (a2 : Option Addr) (c2 : Nat) (K : List Int) (a3 : Option Addr) (c3 : Nat) (R : List Int) (a4 : Option Addr) (c4 : Nat) (P : List Int) (w : World)
    (hA : Ints .i64 w a0 A) (hS : Ints .u64 w a1 S) (hK : Ints .u8 w a2 K) (hR : Ints .i64 w a3 R) (hP : Ints .i64 w a4 P)
    (lS : S.length = A.length) (lK : K.length = A.length) (lR : R.length = A.length) (n : Nat) (hn : A.length = n) (hn4 : n ≤ 4096) (m : Nat) (hm : P.length = m) (hm4 : m ≤ 65536) (hRw : ∀ i, -9223372036854775808 ≤ R.getD i 0 ∧ R.getD i 0 ≤ 9223372036854775807) :
    Calls Try.prog 5 #[.slice a0 n c0, .slice a1 n c1, .slice a2 n c2, .slice a3 n c3, .slice a4 m c4] w fun e w' => VOut A S K R P e ∧ ∃ q, w' = w.drewN q := by
  have HL : Hid (S.length = A.length ∧ K.length = A.length ∧ R.length = A.length ∧ A.length = n ∧ P.length = m) := ⟨lS, lK, lR, hn, hm⟩
  have HA : Hid (Ints .i64 w a0 A ∧ Ints .u64 w a1 S ∧ Ints .u8 w a2 K ∧ Ints .i64 w a3 R ∧ Ints .i64 w a4 P) := ⟨hA, hS, hK, hR, hP⟩
  have HRW : Hid (∀ i, -9223372036854775808 ≤ R.getD i 0 ∧ R.getD i 0 ≤ 9223372036854775807) := hRw
  clear lS lK lR hn hm hA hS hK hR hP hRw
  have hnn : ((n : Int) != n) = false := by simp
  go_enter Try.func5, Try.ntmps5
  go_wp2
  go_loopw [12] (fun i wr => ∃ k : Nat, k ≤ n ∧ i = .int .i64 k ∧ Seen A S K R P k ∧ ∃ q, wr = w.drewN q) (fun i _ => n - (intOf i).toNat)
  case atStart => exact ⟨0, Nat.zero_le _, rfl, Seen.zero _ _ _ _ _, 0, rfl⟩
  case round =>
    obtain ⟨k, hk, rfl, hseen, q, hq⟩ := hrel
    have HQ : Hid (wr = w.drewN q) := hq
    have HSEEN : Hid (Seen A S K R P k) := hseen
    clear hseen
    by_cases hlt : k < n
    · have hL := HL.out
      obtain ⟨hA, hS, hK, hR, hP⟩ := HA.out
      replace hA : Ints .i64 wr a0 A := by rw [hq]; exact hA.drewN q
      replace hS : Ints .u64 wr a1 S := by rw [hq]; exact hS.drewN q
      replace hK : Ints .u8 wr a2 K := by rw [hq]; exact hK.drewN q
      replace hR : Ints .i64 wr a3 R := by rw [hq]; exact hR.drewN q
      obtain ⟨b0, o0, rfl, hcA⟩ := hA.at (i := k) (by omega)
      obtain ⟨b1, o1, rfl, hcS⟩ := hS.at (i := k) (by omega)
      obtain ⟨b2, o2, rfl, hcK⟩ := hK.at (i := k) (by omega)
      obtain ⟨b3, o3, rfl, hcR⟩ := hR.at (i := k) (by omega)
      have hAk := hcA k (by omega)
      have hSk := hcS k (by omega)
      have hKk := hcK k (by omega)
      have hRk := hcR k (by omega)
      have HcS : Hid (∀ i, i < n → wr.cell? ⟨b1, o1 + i, none⟩ = some (.int .u64 (S.getD i 0))) := fun i hi => hcS i (by omega)
      have HcA : Hid (∀ i, i < n → wr.cell? ⟨b0, o0 + i, none⟩ = some (.int .i64 (A.getD i 0))) := fun i hi => hcA i (by omega)
      clear hcA hcS hcK hcR hA hS hK hR hP hL hq
      generalize hkk : K.getD k 0 = kk at *
      generalize hrk : R.getD k 0 = rk at *
      have HKK : Hid (K.getD k 0 = kk) := hkk
      have HRK : Hid (R.getD k 0 = rk) := hrk
      clear hkk hrk
      by_cases h0 : 0 < k
      · obtain ⟨pm, hpm⟩ : ∃ pm : Nat, ((k : Int) - 1) / 2 = pm := ⟨(k - 1) / 2, by omega⟩
        have HPM : Hid ((k - 1) / 2 = pm) := by show _ = _; omega
        have hpk : pm < k := by omega
        have hpn : pm < n := by omega
        have hpA := HcA.out pm (by omega)
        have hpS := HcS.out pm (by omega)
        go_wp2
        · go_ret
          exact ⟨VOut.no _ _ _ _ _, ⟨q, HQ.out⟩⟩
        · go_quiet ((go_at_call 14; exact Calls.quiet_of_same (before_any _ _ _ _ _)))
          go_wp2
          · go_ret
            exact ⟨VOut.no _ _ _ _ _, (drewN_add HQ.out rfl)⟩
          · have hbf : beforeB (A[k]?.getD 0) (S[k]?.getD 0) (A[pm]?.getD 0) (S[pm]?.getD 0) = false := by assumption
            have HB : Hid (0 < k → beforeB (A.getD k 0) (S.getD k 0) (A.getD ((k - 1) / 2) 0) (S.getD ((k - 1) / 2) 0) = false) := fun _ => by rw [HPM.out]; simpa using hbf
            clear hbf
            obtain ⟨wo, rfl⟩ : ∃ wo : World, wo = wr := ⟨_, rfl⟩
            go_loopw [14] (fun j wi => ∃ m : Nat, m ≤ k ∧ j = .int .i64 m ∧ NoDup S k m ∧ ∃ q, wi = w.drewN q) (fun j _ => k - (intOf j).toNat)
            case atStart => exact ⟨0, Nat.zero_le _, rfl, NoDup.zero _ _, by first | exact ⟨q, HQ.out⟩ | exact drewN_add HQ.out rfl⟩
            case round =>
              obtain ⟨mj, hmj, rfl, hnd, q2, hq2⟩ := hrel
              have HND : Hid (NoDup S k mj) := hnd
              have HQ2 : Hid (wr = w.drewN q2) := hq2
              have hcell : ∀ a, wr.cell? a = wo.cell? a := fun a => by rw [hq2, HQ.out]; simp
              have hSk2 := (hcell _).trans hSk
              have hKk2 := (hcell _).trans hKk
              have hRk2 := (hcell _).trans hRk
              clear hnd hq2 hSk hKk hRk hAk
              by_cases hm2 : mj < k
              · have hSm := (hcell _).trans (HcS.out mj (by omega))
                have hmn : mj < n := by omega
                clear hcell
                go_wp2
                go_quiet (fail)
                go_wp2
                · go_ret
                  exact ⟨VOut.no _ _ _ _ _, (drewN_add HQ2.out rfl)⟩
                · have hne : (S[mj]?.getD 0 == S[k]?.getD 0) = false := by assumption
                  go_roundw
                  case rel => exact ⟨mj + 1, by omega, by go_num, HND.out.succ (by simpa using hne), drewN_add HQ2.out rfl⟩
                  case measure => simp [intOf]; omega
              · have HNK : Hid (NoDup S k k) := by have e : mj = k := by omega
                                                   rw [← e]; rw [e]; rw [e] at HND; exact HND.out
                clear hcell
                by_cases hk2 : kk = 2
                · subst hk2
                  by_cases hr0 : rk < 0
                  · go_wp2
                    go_ret
                    exact ⟨VOut.no _ _ _ _ _, ⟨_, HQ2.out⟩⟩
                  · by_cases hr1 : rk + 1 < m
                    · obtain ⟨r, rfl⟩ : ∃ r : Nat, rk = r := ⟨rk.toNat, by omega⟩
                      have hL := HL.out
                      obtain ⟨b4, o4, rfl, hcP⟩ := HA.out.2.2.2.2.at (i := r + 1) (by omega)
                      have hPr : wr.cell? ⟨b4, o4 + (r + 1), none⟩ = some (.int .i64 (P.getD (r + 1) 0)) := by rw [HQ2.out]; simpa using hcP (r + 1) (by omega)
                      clear hcP hL
                      generalize hpk : P.getD (r + 1) 0 = pr at *
                      have HPK : Hid (P.getD (r + 1) 0 = pr) := hpk
                      clear hpk
                      by_cases hpe : pr = (k : Int)
                      · subst hpe
                        go_wp2
                        go_roundw
                        case rel => exact ⟨k + 1, by omega, by go_num, HSEEN.out.succ ⟨HB.out, HNK.out, fun _ => ⟨by rw [HRK.out]; omega, by rw [HRK.out, HL.out.2.2.2.2]; exact hr1, by rw [HRK.out]; exact HPK.out⟩⟩, _, HQ2.out⟩
                        case measure => simp [intOf]; omega
                      · have hpb : (pr != (k : Int)) = true := by simpa using hpe
                        clear hpe
                        go_wp2
                        go_ret
                        exact ⟨VOut.no _ _ _ _ _, ⟨_, HQ2.out⟩⟩
                    · go_wp2
                      go_ret
                      exact ⟨VOut.no _ _ _ _ _, ⟨_, HQ2.out⟩⟩
                · have hk2b : (kk == 2) = false := by simpa using hk2
                  have HK2 : Hid (kk ≠ 2) := hk2
                  clear hk2
                  go_wp2
                  go_roundw
                  case rel => exact ⟨k + 1, by omega, by go_num, HSEEN.out.succ ⟨HB.out, HNK.out, fun h => absurd (HKK.out.symm.trans h) HK2.out⟩, _, HQ2.out⟩
                  case measure => simp [intOf]; omega
      · have HB : Hid (0 < k → beforeB (A.getD k 0) (S.getD k 0) (A.getD ((k - 1) / 2) 0) (S.getD ((k - 1) / 2) 0) = false) := fun h => absurd h h0
        go_wp2
        · go_ret
          exact ⟨VOut.no _ _ _ _ _, ⟨q, HQ.out⟩⟩
        · obtain ⟨wo, rfl⟩ : ∃ wo : World, wo = wr := ⟨_, rfl⟩
          go_loopw [14] (fun j wi => ∃ m : Nat, m ≤ k ∧ j = .int .i64 m ∧ NoDup S k m ∧ ∃ q, wi = w.drewN q) (fun j _ => k - (intOf j).toNat)
          case atStart => exact ⟨0, Nat.zero_le _, rfl, NoDup.zero _ _, by first | exact ⟨q, HQ.out⟩ | exact drewN_add HQ.out rfl⟩
          case round =>
            obtain ⟨mj, hmj, rfl, hnd, q2, hq2⟩ := hrel
            have HND : Hid (NoDup S k mj) := hnd
            have HQ2 : Hid (wr = w.drewN q2) := hq2
            have hcell : ∀ a, wr.cell? a = wo.cell? a := fun a => by rw [hq2, HQ.out]; simp
            have hSk2 := (hcell _).trans hSk
            have hKk2 := (hcell _).trans hKk
            have hRk2 := (hcell _).trans hRk
            clear hnd hq2 hSk hKk hRk hAk
            by_cases hm2 : mj < k
            · exact absurd hm2 (by omega)
            · have HNK : Hid (NoDup S k k) := by have e : mj = k := by omega
                                                 rw [← e]; rw [e]; rw [e] at HND; exact HND.out
              clear hcell
              by_cases hk2 : kk = 2
              · subst hk2
                by_cases hr0 : rk < 0
                · go_wp2
                  go_ret
                  exact ⟨VOut.no _ _ _ _ _, ⟨_, HQ2.out⟩⟩
                · by_cases hr1 : rk + 1 < m
                  · obtain ⟨r, rfl⟩ : ∃ r : Nat, rk = r := ⟨rk.toNat, by omega⟩
                    have hL := HL.out
                    obtain ⟨b4, o4, rfl, hcP⟩ := HA.out.2.2.2.2.at (i := r + 1) (by omega)
                    have hPr : wr.cell? ⟨b4, o4 + (r + 1), none⟩ = some (.int .i64 (P.getD (r + 1) 0)) := by rw [HQ2.out]; simpa using hcP (r + 1) (by omega)
                    clear hcP hL
                    generalize hpk : P.getD (r + 1) 0 = pr at *
                    have HPK : Hid (P.getD (r + 1) 0 = pr) := hpk
                    clear hpk
                    by_cases hpe : pr = (k : Int)
                    · subst hpe
                      go_wp2
                      go_roundw
                      case rel => exact ⟨k + 1, by omega, by go_num, HSEEN.out.succ ⟨HB.out, HNK.out, fun _ => ⟨by rw [HRK.out]; omega, by rw [HRK.out, HL.out.2.2.2.2]; exact hr1, by rw [HRK.out]; exact HPK.out⟩⟩, _, HQ2.out⟩
                      case measure => simp [intOf]; omega
                    · have hpb : (pr != (k : Int)) = true := by simpa using hpe
                      clear hpe
                      go_wp2
                      go_ret
                      exact ⟨VOut.no _ _ _ _ _, ⟨_, HQ2.out⟩⟩
                  · go_wp2
                    go_ret
                    exact ⟨VOut.no _ _ _ _ _, ⟨_, HQ2.out⟩⟩
              · have hk2b : (kk == 2) = false := by simpa using hk2
                have HK2 : Hid (kk ≠ 2) := hk2
                clear hk2
                go_wp2
                go_roundw
                case rel => exact ⟨k + 1, by omega, by go_num, HSEEN.out.succ ⟨HB.out, HNK.out, fun h => absurd (HKK.out.symm.trans h) HK2.out⟩, _, HQ2.out⟩
                case measure => simp [intOf]; omega
    · obtain rfl : k = n := by omega
      clear hq
      go_wp2
      go_loop [16] (fun i => ∃ j : Nat, 1 ≤ j ∧ (j ≤ m ∨ j = 1) ∧ i = .int .i64 j ∧ Plc A K R P j) (fun i => m - (intOf i).toNat)
      case atStart => exact ⟨1, Nat.le_refl _, .inr rfl, rfl, Plc.one _ _ _ _⟩
      case round =>
        obtain ⟨j, hj1, hj2, rfl, hplc⟩ := hrel
        have HPL : Hid (Plc A K R P j) := hplc
        clear hplc
        by_cases hjm : j < m
        · have hL := HL.out
          obtain ⟨b4, o4, rfl, hcP⟩ := HA.out.2.2.2.2.at (i := j) (by omega)
          have hPj : wr.cell? ⟨b4, o4 + j, none⟩ = some (.int .i64 (P.getD j 0)) := by rw [HQ.out]; simpa using hcP j (by omega)
          clear hcP hL
          generalize hpj : P.getD j 0 = x at *
          have HPJ : Hid (P.getD j 0 = x) := hpj
          clear hpj hj2
          by_cases hx1 : x = -1
          · subst hx1
            go_wp2
            go_round
            case rel => exact ⟨j + 1, by omega, .inl (by omega), by go_num, HPL.out.succ (.inl HPJ.out)⟩
            case measure => simp [intOf]; omega
          · have hx1b : (x == -1) = false := by simpa using hx1
            clear hx1
            by_cases hx0 : x < 0
            · go_wp2
              go_ret
              exact ⟨VOut.no _ _ _ _ _, ⟨_, HQ.out⟩⟩
            · by_cases hxn : x < k
              · obtain ⟨xn, rfl⟩ : ∃ xn : Nat, x = xn := ⟨x.toNat, by omega⟩
                have hL := HL.out
                have hxk : xn < k := by omega
                obtain ⟨b2, o2, rfl, hcK⟩ := HA.out.2.2.1.at (i := xn) (by omega)
                obtain ⟨b3, o3, rfl, hcR⟩ := HA.out.2.2.2.1.at (i := xn) (by omega)
                have hKx : wr.cell? ⟨b2, o2 + xn, none⟩ = some (.int .u8 (K.getD xn 0)) := by rw [HQ.out]; simpa using hcK xn (by omega)
                have hRx : wr.cell? ⟨b3, o3 + xn, none⟩ = some (.int .i64 (R.getD xn 0)) := by rw [HQ.out]; simpa using hcR xn (by omega)
                clear hcK hcR hL
                generalize hkx : K.getD xn 0 = kx at *
                generalize hrx : R.getD xn 0 = rx at *
                have HKX : Hid (K.getD xn 0 = kx) := hkx
                have HRX : Hid (R.getD xn 0 = rx) := hrx
                clear hkx hrx
                by_cases hk2 : kx = 2
                · subst hk2
                  by_cases hr2 : rx = (j : Int) - 1
                  · subst hr2
                    have hbb : ((j : Int) - 1 != (j : Int) - 1) = false := by simp
                    go_wp2
                    go_round
                    case rel => exact ⟨j + 1, by omega, .inl (by omega), by go_num, HPL.out.succ (.inr ⟨by rw [HPJ.out]; omega, by rw [HPJ.out, HL.out.2.2.2.1]; omega, by rw [HPJ.out]; exact HKX.out, by rw [HPJ.out]; exact HRX.out⟩)⟩
                    case measure => simp [intOf]; omega
                  · have hbb : (rx != (j : Int) - 1) = true := by simpa using hr2
                    clear hr2
                    go_wp2
                    go_ret
                    exact ⟨VOut.no _ _ _ _ _, ⟨_, HQ.out⟩⟩
                · have hbb : (kx != 2) = true := by simpa using hk2
                  clear hk2
                  go_wp2
                  go_ret
                  exact ⟨VOut.no _ _ _ _ _, ⟨_, HQ.out⟩⟩
              · go_wp2
                go_ret
                exact ⟨VOut.no _ _ _ _ _, ⟨_, HQ.out⟩⟩
        · go_wp2
          go_ret
          refine ⟨VOut.yes ?_, ⟨_, HQ.out⟩⟩
          obtain ⟨l1, l2, l3, l4, l5⟩ := HL.out
          refine ⟨l1, l2, l3, by rw [l4]; exact HSEEN.out, fun i hi1 hi2 => HPL.out i hi1 (by omega)⟩

end Go.Proofs.Qxb6614809a
