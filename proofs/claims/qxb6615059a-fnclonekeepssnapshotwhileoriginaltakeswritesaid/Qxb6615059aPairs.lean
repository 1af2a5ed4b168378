/-
  zzClonePairs.
-/
import Derived.Test.Qxb6615059aSize
namespace Go.Proofs.Qxb6615059a
open Go.RowKit
set_option linter.unusedVariables false

def upd {α : Type} (L : Nat → α) (i : Nat) (x : α) : Nat → α := fun j => if j = i then x else L j
theorem upd_same {α : Type} (L : Nat → α) (i : Nat) (x : α) : upd L i x i = x := by simp [upd]
theorem upd_other {α : Type} (L : Nat → α) (i j : Nat) (x : α) (h : j ≠ i) : upd L i x j = L j := by simp [upd, h]

theorem Try.info37 : (Try.prog.info? 37).map (fun i => (i.zero, i.size, i.bytes)) = some (some (.agg #[.string ⟨#[]⟩, .slice none 0 0]), 2, 40) := by kernel_rfl
theorem run_make_pairs (n : Nat) (hn : n ≤ 65536) (w : World) : (Instr.makeSlice 22 (.int .i64 (n : Int)) (.int .i64 (n : Int))).run Try.prog w = .ok (.slice (some ⟨w.heap.size, 0, none⟩) n n) (w.alloc (.cells (madeCells #[.string ⟨#[]⟩, .slice none 0 0] (n * 2)) 37)) := by
  obtain ⟨i, hi, hz0, hz1, hz2⟩ := info_parts Try.info37
  have hr := run_make (P := Try.prog) w 22 37 i (.agg #[.string ⟨#[]⟩, .slice none 0 0]) Try.underlying22 hi hz0 .i64 .i64 n n (by omega) (Int.le_refl _) (by rw [hz2]; omega) (by omega)
  rw [hr, hz1, Int.toNat_natCast]
  rfl

def put2 (w : World) (b o : Nat) (x y : Value) : World := (w.setCell ⟨b, o, none⟩ x).setCell ⟨b, o + 1, none⟩ y
theorem put2_other (w : World) (b o : Nat) (x y : Value) (b' o' : Nat) (h : b' ≠ b ∨ (o' < o ∨ o + 2 ≤ o')) : (put2 w b o x y).cell? ⟨b', o', none⟩ = w.cell? ⟨b', o', none⟩ := by
  have ne : ∀ i, o ≤ i → i < o + 2 → (⟨b, i, none⟩ : Addr) ≠ ⟨b', o', none⟩ := fun i hi hi' e => by
    injection e with e1 e2
    rcases h with h | h
    · exact h e1.symm
    · omega
  unfold put2
  rw [World.cell?_setCell_other _ _ _ _ (ne (o + 1) (by omega) (by omega)), World.cell?_setCell_other _ _ _ _ (ne o (by omega) (by omega))]
theorem put2_same (w : World) (b o : Nat) (x y : Value) (h : ∀ i, i < 2 → ∃ v, w.cell? ⟨b, o + i, none⟩ = some v) : (put2 w b o x y).cell? ⟨b, o, none⟩ = some x ∧ (put2 w b o x y).cell? ⟨b, o + 1, none⟩ = some y := by
  have ne : ∀ i j, i ≠ j → (⟨b, i, none⟩ : Addr) ≠ ⟨b, j, none⟩ := fun i j hi e => by injection e with e1 e2; omega
  obtain ⟨v0, h0⟩ := h 0 (by omega)
  obtain ⟨v1, h1⟩ := h 1 (by omega)
  unfold put2
  refine ⟨?_, ?_⟩
  · rw [World.cell?_setCell_other _ _ _ _ (ne (o + 1) o (by omega))]
    exact World.cell?_setCell_same _ _ _ h0
  · exact World.cell?_setCell_same _ _ _ (by rw [World.cell?_setCell_other _ _ _ _ (ne o (o + 1) (by omega))]; exact h1)
theorem put2_frozen (w : World) (b o : Nat) (x y : Value) (a : Addr) : (put2 w b o x y).frozen? a = w.frozen? a := by unfold put2; rw [World.frozen?_setCell, World.frozen?_setCell]
theorem put2_size (w : World) (b o : Nat) (x y : Value) : (put2 w b o x y).heap.size = w.heap.size := by simp [put2, World.setCell]

theorem setCell_alloc_old (w : World) (o : Obj) (a : Addr) (v : Value) (h : a.block < w.heap.size) : (w.alloc o).setCell a v = (w.setCell a v).alloc o := by
  simp only [World.setCell, World.alloc]
  congr 1
  apply Array.ext
  · simp
  · intro i h1 h2
    simp only [Array.getElem_modify, Array.getElem_push]
    by_cases e : i < w.heap.size
    · simp [e]
    · have : a.block ≠ i := by omega
      simp [e, this]
theorem put2_alloc (w : World) (b o : Nat) (x y : Value) (ob : Obj) (h : b < w.heap.size) : put2 (w.alloc ob) b o x y = (put2 w b o x y).alloc ob := by
  unfold put2
  rw [setCell_alloc_old _ _ _ _ h, setCell_alloc_old _ _ _ _ (by simp [World.setCell]; exact h)]

/-- k pairs are laid in block g -/
structure LP (g : Nat) (w wr : World) (m : Nat) (ks : Nat → ByteArray) (va : Nat → Option Addr) (zs : Nat → List Int) (va' : Nat → Option Addr) (vc' : Nat → Nat) (k : Nat) : Prop where
  bel : Below w.heap.size w wr
  wg : w.heap.size ≤ g
  gl : g < wr.heap.size
  ex : ∀ j, j < m → ∀ c, c < 2 → ∃ v, wr.cell? ⟨g, j * 2 + c, none⟩ = some v
  it : ∀ j, j < k → wr.cell? ⟨g, j * 2, none⟩ = some (.string (ks j)) ∧ wr.cell? ⟨g, j * 2 + 1, none⟩ = some (.slice (va' j) (zs j).length (vc' j))
  v : ∀ j, j < k → Ints .u8 wr (va' j) (zs j) ∧ (va' j = none → zs j = [] ∧ vc' j = 0) ∧ (va' j = none ↔ va j = none) ∧ (va' j = none ∨ ∃ b, g < b ∧ va' j = some ⟨b, 0, none⟩)
  fz : ∀ o, wr.frozen? ⟨g, o, none⟩ = false

section
variable {g : Nat} {w wr : World} {m k : Nat} {ks : Nat → ByteArray} {va : Nat → Option Addr} {zs : Nat → List Int} {va' : Nat → Option Addr} {vc' : Nat → Nat}
theorem LP.drew (h : LP g w wr m ks va zs va' vc' k) : LP g w wr.drew m ks va zs va' vc' k := ⟨h.bel.drew, h.wg, h.gl, h.ex, h.it, h.v, h.fz⟩
theorem LP.alloc (h : LP g w wr m ks va zs va' vc' k) (o : Obj) : LP g w (wr.alloc o) m ks va zs va' vc' k := by
  have hb : Below wr.heap.size wr (wr.alloc o) := (Below.refl _ _).alloc (Nat.le_refl _) _
  refine ⟨h.bel.alloc (Nat.le_trans h.wg (Nat.le_of_lt h.gl)) o, h.wg, Nat.lt_of_lt_of_le h.gl hb.size, fun j hj c hc => ?_, fun j hj => ⟨below_cell hb (h.it j hj).1, below_cell hb (h.it j hj).2⟩, fun j hj => ⟨(h.v j hj).1.below hb, (h.v j hj).2⟩, fun o' => ?_⟩
  · obtain ⟨v, hv⟩ := h.ex j hj c hc
    exact ⟨v, below_cell hb hv⟩
  · rw [hb.frozen (p := ⟨g, o', none⟩) h.gl]; exact h.fz o'
theorem ints_put2 {w : World} {b : Nat} {zs : List Int} (h : Ints .u8 w (some ⟨b, 0, none⟩) zs) {g : Nat} (hne : b ≠ g) (o : Nat) (x y : Value) : Ints .u8 (put2 w g o x y) (some ⟨b, 0, none⟩) zs := by
  rcases h with h | ⟨b', off, e, h⟩
  · exact .inl h
  · injection e with e
    injection e with e1 e2
    subst e1 e2
    exact .inr ⟨_, _, rfl, fun i hi => by rw [put2_other _ _ _ _ _ _ _ (.inl hne)]; exact h i hi⟩
/-- the value is there already; the pair is laid -/
theorem LP.put (h : LP g w wr m ks va zs va' vc' k) (hk : k < m) (a' : Option Addr) (c' : Nat) (hI : Ints .u8 wr a' (zs k)) (hn : a' = none → zs k = [] ∧ c' = 0) (hi : a' = none ↔ va k = none) (hb : a' = none ∨ ∃ b, g < b ∧ a' = some ⟨b, 0, none⟩) :
    LP g w (put2 wr g (k * 2) (.string (ks k)) (.slice a' (zs k).length c')) m ks va zs (upd va' k a') (upd vc' k c') (k + 1) := by
  have sm := put2_same wr g (k * 2) (.string (ks k)) (.slice a' (zs k).length c') (h.ex k hk)
  have keepI : ∀ (a : Option Addr) (z : List Int), Ints .u8 wr a z → (a = none → z = []) → (a = none ∨ ∃ b, g < b ∧ a = some ⟨b, 0, none⟩) → Ints .u8 (put2 wr g (k * 2) (.string (ks k)) (.slice a' (zs k).length c')) a z := by
    intro a z hz h0 hbb
    rcases hbb with rfl | ⟨b, hb1, rfl⟩
    · exact .inl (h0 rfl)
    · exact ints_put2 hz (by omega) _ _ _
  refine ⟨?_, h.wg, by rw [put2_size]; exact h.gl, ?_, ?_, ?_, fun o => by rw [put2_frozen]; exact h.fz o⟩
  · exact (h.bel.setCell (p := ⟨g, k * 2, none⟩) h.wg _).setCell (p := ⟨g, k * 2 + 1, none⟩) h.wg _
  · intro j hj c hc
    by_cases e : j = k
    · subst e
      match c, hc with
      | 0, _ => exact ⟨_, sm.1⟩
      | 1, _ => exact ⟨_, sm.2⟩
    · rw [put2_other _ _ _ _ _ _ _ (.inr (by omega))]; exact h.ex j hj c hc
  · intro j hj
    by_cases e : j = k
    · subst e; rw [upd_same, upd_same]; exact sm
    · rw [upd_other _ _ _ _ e, upd_other _ _ _ _ e, put2_other _ _ _ _ _ _ _ (.inr (by omega)), put2_other _ _ _ _ _ _ _ (.inr (by omega))]; exact h.it j (by omega)
  · intro j hj
    by_cases e : j = k
    · subst e; rw [upd_same, upd_same]; exact ⟨keepI _ _ hI (fun h => (hn h).1) hb, hn, hi, hb⟩
    · rw [upd_other _ _ _ _ e, upd_other _ _ _ _ e]
      have hv := h.v j (by omega)
      exact ⟨keepI _ _ hv.1 (fun h => (hv.2.1 h).1) hv.2.2.2, hv.2⟩
end
theorem LP.start (w : World) (m : Nat) (ks : Nat → ByteArray) (va : Nat → Option Addr) (zs : Nat → List Int) (va' : Nat → Option Addr) (vc' : Nat → Nat) : LP w.heap.size w (w.alloc (.cells (madeCells #[.string ⟨#[]⟩, .slice none 0 0] (m * 2)) 37)) m ks va zs va' vc' 0 := by
  refine ⟨(Below.refl _ w).alloc (Nat.le_refl _) _, Nat.le_refl _, by simp, fun j hj c hc => ?_, fun j hj => absurd hj (by omega), fun j hj => absurd hj (by omega), fun o => by simp⟩
  have hlt : j * 2 + c < (madeCells #[Value.string ⟨#[]⟩, .slice none 0 0] (m * 2)).size := by simp [madeCells]; omega
  refine ⟨(madeCells #[Value.string ⟨#[]⟩, .slice none 0 0] (m * 2))[j * 2 + c], ?_⟩
  unfold World.cell?
  rw [heap_alloc_new]
  simp [hlt]

/-- what clonePairs leaves -/
def Cloned (w w' : World) (g m : Nat) (ks : Nat → ByteArray) (va : Nat → Option Addr) (zs : Nat → List Int) : Prop :=
  ∃ va' vc', PIn w' (some ⟨g, 0, none⟩) m ks va' zs vc' ∧ (∀ j, j < m → (va' j = none ↔ va j = none)) ∧ Below w.heap.size w w'

set_option maxRecDepth 100000 in
set_option maxHeartbeats 1000000 in
theorem clonePairs_some (ad : Addr) (m c : Nat) (ks : Nat → ByteArray) (va : Nat → Option Addr) (zs : Nat → List Int) (vc : Nat → Nat) (w : World) (h : PIn w (some ad) m ks va zs vc) (hm : m ≤ 65536) (hz : ∀ j, j < m → (zs j).length ≤ 1048576) :
    Calls Try.prog 6 #[.slice (some ad) m c] w fun e w' => e = .returned (.slice (some ⟨w.heap.size, 0, none⟩) m m) ∧ Cloned w w' w.heap.size m ks va zs := by
  have hn := fun (w : World) => Lib.run_eql_slice_nil (P := Try.prog) w 22 37 (some ad) m c 0 0 Try.underlying22
  have hmk := run_make_pairs m hm
  have HP : Hid (PIn w (some ad) m ks va zs vc ∧ ∀ j, j < m → (zs j).length ≤ 1048576) := ⟨h, hz⟩
  clear h hz
  go_enter Try.func6, Try.ntmps6
  go_wp2
  clear hn hmk
  go_loopw [4] (fun i wr => ∃ (k : Nat) (va' : Nat → Option Addr) (vc' : Nat → Nat), k ≤ m ∧ i = .int .i64 k ∧ LP w.heap.size w wr m ks va zs va' vc' k) (fun i _ => m - (intOf i).toNat)
  case atStart => exact ⟨0, fun _ => none, fun _ => 0, Nat.zero_le _, rfl, LP.start _ _ _ _ _ _ _⟩
  case round =>
    obtain ⟨k, va', vc', hk, rfl, hL⟩ := hrel
    have HL : Hid (LP w.heap.size w wr m ks va zs va' vc' k) := hL
    by_cases hlt : k < m
    · have hP := HP.out.1.below hL.bel
      obtain ⟨b, off, e, hc⟩ := hP.at (by omega)
      injection e with e
      subst e
      obtain ⟨hck, hcv⟩ := hc k hlt
      have hbg : b < w.heap.size := by
        obtain ⟨b', off', e, hc'⟩ := HP.out.1.at (by omega)
        injection e with e
        injection e with e1 e2
        subst e1
        exact cell_lt (hc' k hlt).1
      obtain ⟨v0, d0⟩ := hL.ex k hlt 0 (by omega)
      obtain ⟨v1, d1⟩ := hL.ex k hlt 1 (by omega)
      replace d0 : wr.cell? ⟨w.heap.size, k * 2, none⟩ = some v0 := d0
      have fz := hL.fz
      have hgl := hL.gl
      have hIv := hP.v k hlt
      clear hc hP
      have hk0 : (0 : Int) ≤ (k : Int) := by omega
      have hk1 : (k : Int) < (m : Int) := by omega
      have hne : b ≠ w.heap.size := by omega
      have hne' : w.heap.size ≠ b := by omega
      have hbl : b < wr.heap.size := by omega
      cases hva : va k with
      | none =>
        obtain ⟨hz0, hc0⟩ := hIv.2 hva
        have HE : Hid _ := (hL.put hlt none 0 (.inl hz0) (fun _ => ⟨hz0, rfl⟩) (by rw [hva]) (.inl rfl)).drew
        rw [hva, hz0, hc0] at hcv
        rw [hz0] at HE
        clear hIv hL hva hz0 hc0
        generalize ks k = key at *
        generalize w.heap.size = g at *
        go_wp2_with fail
        go_region_held3 (fun w' => w'.cell? ⟨b, off + k * 2, none⟩ = some (.string key) ∧ w'.cell? ⟨b, off + k * 2 + 1, none⟩ = some (.slice none 0 0)) (go_keep)
          ((go_at_call 7; refine (cloneBytes_nil _).mono ?_; rintro e w1 ⟨rfl, rfl⟩))
        go_wp2
        go_roundw
        case rel => exact ⟨k + 1, _, _, by omega, by go_num, HE.out⟩
        case measure => simp [intOf]; omega
      | some vad =>
        have hI : Ints .u8 wr (some vad) (zs k) := by rw [← hva]; exact hIv.1
        have hzl := HP.out.2 k hlt
        have hE := ((hL.alloc (bytesObj (zs k))).put hlt (some ⟨wr.heap.size, 0, none⟩) (zs k).length (ints_new _ _) (fun h => by cases h) (by rw [hva]; simp) (.inr ⟨wr.heap.size, hgl, rfl⟩)).drew
        rw [put2_alloc _ _ _ _ _ _ hgl] at hE
        have HE : Hid _ := hE
        have HI : Hid (Ints .u8 wr (some vad) (zs k)) := hI
        rw [hva] at hcv
        clear hIv hL hva hE hI
        generalize ks k = key at *
        generalize w.heap.size = g at *
        generalize zs k = z at *
        have hgr : g ≠ wr.heap.size := by omega
        have hbr : b ≠ wr.heap.size := by omega
        go_wp2_with fail
        go_region_held3 (fun w' => w'.cell? ⟨b, off + k * 2, none⟩ = some (.string key) ∧ w'.cell? ⟨b, off + k * 2 + 1, none⟩ = some (.slice (some vad) z.length (vc k))) (go_keep)
          ((go_at_call 7; refine (cloneBytes_some vad (vc k) z _ (by exact HI.out) hzl).mono ?_; rintro e w1 ⟨rfl, rfl⟩))
        go_wp2
        go_roundw
        case rel => exact ⟨k + 1, _, _, by omega, by go_num, HE.out⟩
        case measure => simp [intOf]; omega
    · obtain rfl : k = m := by omega
      go_wp2
      go_ret
      refine ⟨rfl, va', vc', ⟨.inr ⟨w.heap.size, 0, rfl, fun j hj => ?_⟩, fun j hj => ⟨(HL.out.v j hj).1, (HL.out.v j hj).2.1⟩, HP.out.1.kl, HP.out.1.zl⟩, fun j hj => (HL.out.v j hj).2.2.1, HL.out.bel⟩
      rw [Nat.zero_add]; exact HL.out.it j hj

end Go.Proofs.Qxb6615059a
