/-
  zzMap: the map that the pairs give; how its elements read.
-/
import Derived.Test.Qxb6615059aPairs
import Derived.Maps.Own
import Derived.Maps.OwnSet
import Derived.Maps.Views
namespace Go.Proofs.Qxb6615059a
open Go.RowKit Go.Maps
set_option linter.unusedVariables false

/-- a slice of bytes that can be read in w -/
def goodB (w : World) : Value → Bool
  | .slice none n _ => n == 0
  | .slice (some a) n _ => decide (n ≤ 1048576) && (List.range n).all fun i => match w.cell? (a.add i) with | some (.int .u8 _) => true | _ => false
  | _ => false
/-- its bytes -/
def byteAt (w : World) (a : Addr) (i : Nat) : Int := match w.cell? (a.add i) with | some (.int .u8 z) => z | _ => 0
/-- what it reads as -/
def cont (w : World) : Value → DataW Unit
  | .slice (some a) n _ => .slice ((List.range n).map fun i => .lit (.int .u8 (byteAt w a i))) []
  | _ => .nil
def RR (w : World) (v : Value) : Option (DataW Unit × List MemPlace) := if goodB w v then some (cont w v, []) else none

def contZ (a : Option Addr) (zs : List Int) : DataW Unit := if a = none then .nil else .slice (zs.map fun z => .lit (.int .u8 z)) []

theorem RR_of {w : World} {a : Option Addr} {zs : List Int} {c : Nat} (h : Ints .u8 w a zs) (hn : a = none → zs = []) (hl : zs.length ≤ 1048576) : RR w (.slice a zs.length c) = some (contZ a zs, []) := by
  cases a with
  | none =>
    have := hn rfl
    subst this
    rfl
  | some ad =>
    have hc : ∀ i, i < zs.length → w.cell? (ad.add i) = some (.int .u8 (zs.getD i 0)) := by
      intro i hi
      obtain ⟨b, off, e, hc⟩ := h.at hi
      injection e with e
      subst e
      rw [Addr.add_lit]; exact hc i hi
    have hg : goodB w (.slice (some ad) zs.length c) = true := by
      simp only [goodB, Bool.and_eq_true, decide_eq_true_eq, List.all_eq_true, List.mem_range]
      exact ⟨hl, fun i hi => by rw [hc i hi]⟩
    unfold RR
    rw [if_pos hg]
    congr 2
    simp only [cont, contZ, reduceCtorEq, if_false]
    congr 1
    apply List.ext_getElem
    · simp
    · intro i h1 h2
      simp only [List.getElem_map, List.getElem_range]
      have hi : i < zs.length := by simpa using h2
      unfold byteAt
      rw [hc i hi]
      simp [List.getD_eq_getElem?_getD, hi]

/-- what a value that reads is -/
theorem RR_inv {w : World} {v : Value} {d : DataW Unit} {ps : List MemPlace} (h : RR w v = some (d, ps)) :
    ∃ a zs c, v = .slice a zs.length c ∧ Ints .u8 w a zs ∧ (a = none → zs = []) ∧ zs.length ≤ 1048576 ∧ d = contZ a zs := by
  unfold RR at h
  split at h
  · rename_i hg
    injection h with h
    injection h with h1 h2
    subst h1
    cases v with
    | slice a n c =>
      cases a with
      | none =>
        have hn : n = 0 := by simpa [goodB] using hg
        subst hn
        exact ⟨none, [], c, rfl, .inl rfl, fun _ => rfl, by simp, rfl⟩
      | some ad =>
        simp only [goodB, Bool.and_eq_true, decide_eq_true_eq, List.all_eq_true, List.mem_range] at hg
        obtain ⟨hn, hc⟩ := hg
        have hcell : ∀ i, i < n → w.cell? (ad.add i) = some (.int .u8 (byteAt w ad i)) := by
          intro i hi
          have := hc i hi
          unfold byteAt
          split at this
          · rename_i z hz; rw [hz]
          · cases this
        have hl : ((List.range n).map (byteAt w ad)).length = n := by simp
        refine ⟨some ad, (List.range n).map (byteAt w ad), c, by rw [hl], ?_, (fun h => by cases h), (by rw [hl]; exact hn), ?_⟩
        · by_cases h0 : n = 0
          · left; subst h0; rfl
          · right
            obtain ⟨b, off, spot⟩ := ad
            have hspot : spot = none := by simpa [Addr.add] using World.cell?_spot (hcell 0 (by omega))
            subst hspot
            refine ⟨b, off, rfl, fun i hi => ?_⟩
            have hi' : i < n := by simpa using hi
            have := hcell i hi'
            rw [Addr.add_lit] at this
            rw [this]
            simp [List.getD_eq_getElem?_getD, hi']
        · simp [cont, contZ, Function.comp_def]
    | _ => simp [goodB] at hg
  · cases h

theorem law : Keyed Try.prog 9 := string_keyed Try.underlying9
def kl (s : ByteArray) : Lit := .string s.data.toList
theorem key_of {s : ByteArray} (h : s.size ≤ maxLen) : keyOf Try.prog 9 (.string s) = some (kl s) := Go.WideMaps.keyOf_string_mk Try.underlying9 h

/-- the map behind k stores -/
def DD (ks : Nat → ByteArray) (cs : Nat → DataW Unit) : Nat → DataW Unit
  | 0 => .map []
  | k + 1 => (DD ks cs k).put (kl (ks k)) (cs k)
theorem DD_congr {ks : Nat → ByteArray} {cs cs' : Nat → DataW Unit} {m : Nat} (h : ∀ j, j < m → cs j = cs' j) : ∀ k, k ≤ m → DD ks cs k = DD ks cs' k
  | 0, _ => rfl
  | k + 1, hk => by simp only [DD]; rw [DD_congr h k (by omega), h k (by omega)]

theorem run_makeMap_hint (n : Int) (w : World) : (Instr.makeMap 30 (some (.int .i64 n))).run Try.prog w = .ok (.map (some w.heap.size)) (w.alloc (.map #[] 0)) := by
  simp [Instr.makeMap, run_underlying Try.underlying30, go_sem, Result.andThen]

end Go.Proofs.Qxb6615059a
