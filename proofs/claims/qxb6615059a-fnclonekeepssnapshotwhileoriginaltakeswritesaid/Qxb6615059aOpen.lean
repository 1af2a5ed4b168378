/-
  The arguments, opened.
-/
import Derived.Test.Qxb6615059aMainNil
import Derived.ProofKit
import Derived.OpenShut
import Derived.Deep.SlicePairs
namespace Go.Proofs.Qxb6615059a
open Go.RowKit Go.ChangeShapes Go.WideShapes
set_option linter.unusedVariables false

theorem Try.cells5 : Try.prog.cellsOf 5 = 1 := by kernel_rfl
theorem Try.cells24 : Try.prog.cellsOf 24 = 32 := by kernel_rfl
theorem Try.cells37 : Try.prog.cellsOf 37 = 2 := by kernel_rfl
theorem Try.cells9 : Try.prog.cellsOf 9 = 1 := by kernel_rfl
theorem Try.cells25 : Try.prog.cellsOf 25 = 1 := by kernel_rfl

section
variable {H : Type} {enc : TypeId × Value → H} {W : World} {base b0 : Nat} {spare : Nat → Bool} {held : Bool} {r : Reach}

theorem byte_of {z : Int} (h : (Lit.int .u8 z).wf = true) : Extern.Stop.cell (UInt8.ofNat z.toNat) = .int .u8 z := by
  have hb := bounds_u8 h
  unfold Extern.Stop.cell
  congr 1
  have : z.toNat < 256 := by omega
  simp [UInt8.toNat_ofNat', Nat.mod_eq_of_lt this]
  omega

def byteOf : Value → UInt8
  | .int _ z => UInt8.ofNat z.toNat
  | _ => 0

theorem open_arr {v : Value} {d : DataW H} {p : List MemPlace} (hval : Value.okWide Try.prog W r b0 24 v) (h : DataW.Trod enc Try.prog W base spare held 24 v d p) :
    ∃ xs : List UInt8, xs.length = 32 ∧ v = .agg (xs.map Extern.Stop.cell).toArray := by
  have hv := hval
  simp only [Value.okWide, Try.underlying24] at hv
  obtain ⟨cs, rfl, hsz, _⟩ := hv
  obtain ⟨fuel, hf⟩ := h
  obtain ⟨ys, m, _, _, hl, hyl, he⟩ := DataW.trod_array Try.underlying24 hf
  have hcs : cs.size = 32 := hsz.trans Try.cells24
  have hcell : ∀ i, i < 32 → ∃ z, cs[i]? = some (.int .u8 z) ∧ (Lit.int .u8 z).wf = true := by
    intro i hi
    have h1 := he i hi
    rw [Try.cells5, Nat.mul_one] at h1
    rw [List.getElem?_eq_getElem (by omega)] at h1
    have e : ((Value.cells (.agg cs)).toList.drop i).take 1 = [cs[i]'(by omega)] := by
      simp only [Value.cells]
      rw [List.drop_eq_getElem_cons (by simp; omega)]
      simp
    rw [e] at h1
    obtain ⟨z, hz, _, hw⟩ := DataW.trod_int Try.underlying5 h1
    simp at hz
    exact ⟨z, by rw [Array.getElem?_eq_getElem (by omega), hz], hw⟩
  refine ⟨cs.toList.map byteOf, by simp [hcs], ?_⟩
  congr 1
  apply Array.ext
  · simp
  · intro i h1 h2
    obtain ⟨z, hz, hw⟩ := hcell i (by omega)
    rw [Array.getElem?_eq_getElem h1] at hz
    injection hz with hz
    simp [hz, byteOf, byte_of hw]

theorem open_bytes {v : Value} {n : Nat} {x : DataW H × List MemPlace} (h : DataW.trod enc Try.prog W base spare held n 25 [v] = some x) :
    ∃ a zs c, v = .slice a zs.length c ∧ Ints .u8 W a zs ∧ (a = none → zs = [] ∧ c = 0) ∧ zs.length ≤ maxLen := by
  rcases ChangeShapes.open_ints Try.underlying25 Try.underlying5 Try.cells5 h with ⟨hcs, _⟩ | ⟨ad, l, c, zs, hcs, _, hl, hm, hz, _, hcell, hwz⟩
  · simp at hcs
    subst hcs
    exact ⟨none, [], 0, rfl, .inl rfl, fun _ => ⟨rfl, rfl⟩, by simp⟩
  · simp at hcs
    subst hcs
    have hlz : l ≤ zs.length := by rw [hz]; split <;> omega
    have hlen : (zs.take l).length = l := by simp; omega
    refine ⟨some ad, zs.take l, c, by rw [hlen], ?_, (fun h => by cases h), by rw [hlen]; omega⟩
    by_cases h0 : l = 0
    · left; subst h0; simp
    · right
      obtain ⟨b, off, spot⟩ := ad
      have hspot : spot = none := by simpa [Addr.add] using World.cell?_spot (hcell 0 (by omega))
      subst hspot
      refine ⟨b, off, rfl, fun i hi => ?_⟩
      have hi' : i < l := by omega
      have := hcell i (by omega)
      rw [Addr.add_lit] at this
      rw [this]
      simp [List.getD_eq_getElem?_getD, hi']

theorem open_pairs {a : Option Addr} {len cap n : Nat} {x : DataW H × List MemPlace} (h : DataW.trod enc Try.prog W base (fun _ => true) held n 22 [.slice a len cap] = some x) :
    (a = none ∧ len = 0 ∧ cap = 0) ∨ ∃ ad, a = some ad ∧ len ≤ maxLen ∧ ∃ ks va zs vc, PIn W (some ad) len ks va zs vc := by
  rcases Deep.open_slice_pairs Try.underlying22 Try.underlying37 Try.cells37 rfl rfl Try.cells9 Try.cells25 h with ⟨hcs, _⟩ | ⟨ad, l, c, m, k, V0, V1, D0, D1, P0, P1, hcs, _, hl, hm, hmm, _, hx⟩
  · simp at hcs
    exact .inl hcs
  · simp at hcs
    obtain ⟨rfl, rfl, rfl⟩ := hcs
    right
    have hlm : len ≤ m := by rw [hmm]; simpa using hl
    refine ⟨ad, rfl, by omega, ?_⟩
    have each : ∀ i, i < len → ∃ q : ByteArray × Option Addr × List Int × Nat, V0 i = .string q.1 ∧ q.1.size ≤ maxLen ∧ V1 i = .slice q.2.1 q.2.2.1.length q.2.2.2 ∧ Ints .u8 W q.2.1 q.2.2.1 ∧ (q.2.1 = none → q.2.2.1 = [] ∧ q.2.2.2 = 0) ∧ q.2.2.1.length ≤ maxLen := by
      intro i hi
      obtain ⟨_, _, t0, t1⟩ := hx i (by omega)
      obtain ⟨s, hs, _, hsl⟩ := DataW.trod_string Try.underlying9 t0
      simp at hs
      obtain ⟨a', z', c', hv, hI, hn, hzl⟩ := open_bytes t1
      exact ⟨(s, a', z', c'), hs, hsl, hv, hI, hn, hzl⟩
    obtain ⟨q, hq⟩ := Deep.choose_lt each
    refine ⟨fun i => (q i).1, fun i => (q i).2.1, fun i => (q i).2.2.1, fun i => (q i).2.2.2, ?_, fun j hj => ⟨(hq j hj).2.2.2.1, (hq j hj).2.2.2.2.1⟩, fun j hj => (hq j hj).2.1, fun j hj => (hq j hj).2.2.2.2.2⟩
    by_cases h0 : len = 0
    · exact .inl h0
    · right
      obtain ⟨b, off, spot⟩ := ad
      have hspot : spot = none := by simpa [Addr.add] using World.cell?_spot (hx 0 (by omega)).1
      subst hspot
      refine ⟨b, off, rfl, fun j hj => ?_⟩
      obtain ⟨x0, x1, _, _⟩ := hx j (by omega)
      rw [Addr.add_lit] at x0 x1
      exact ⟨by rw [x0, (hq j hj).1], by rw [show off + j * 2 + 1 = off + (j * 2 + 1) from by omega, x1, (hq j hj).2.2.1]⟩

end
end Go.Proofs.Qxb6615059a
