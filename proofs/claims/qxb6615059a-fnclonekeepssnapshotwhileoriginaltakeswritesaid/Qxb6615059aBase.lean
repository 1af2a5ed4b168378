/-
  Rows of bytes; pairs; small laws.
-/
import Derived.Test.Qxb6615059aRows
import Derived.WalkKit
import Derived.WalkSpells
import Derived.Below
import Derived.Outline
import Derived.Deep.QuietTactic
import Derived.BigQuiet
import Derived.BigRegion
import Derived.Deep.RegionHeld3
import Derived.Laws.CopyOwn
import Derived.Deep.OwnRows
namespace Go.Proofs.Qxb6615059a
open Go.RowKit
set_option linter.unusedVariables false

def Ints (k : IntKind) (w : World) (a : Option Addr) (zs : List Int) : Prop :=
  zs = [] ∨ ∃ b off, a = some ⟨b, off, none⟩ ∧ ∀ i, i < zs.length → w.cell? ⟨b, off + i, none⟩ = some (.int k (zs.getD i 0))
theorem Ints.at {k : IntKind} {w : World} {a : Option Addr} {zs : List Int} (h : Ints k w a zs) {i : Nat} (hi : i < zs.length) :
    ∃ b off, a = some ⟨b, off, none⟩ ∧ ∀ i, i < zs.length → w.cell? ⟨b, off + i, none⟩ = some (.int k (zs.getD i 0)) := by
  rcases h with rfl | h
  · simp at hi
  · exact h
theorem Ints.cell {k : IntKind} {w : World} {b off : Nat} {zs : List Int} (h : Ints k w (some ⟨b, off, none⟩) zs) {i : Nat} (hi : i < zs.length) : w.cell? ⟨b, off + i, none⟩ = some (.int k (zs.getD i 0)) := by
  obtain ⟨b', off', e, hc⟩ := h.at hi
  injection e with e
  injection e with e1 e2
  subst e1 e2
  exact hc i hi
theorem cell_lt {w : World} {b o : Nat} {v : Value} (h : w.cell? ⟨b, o, none⟩ = some v) : b < w.heap.size := by
  apply Decidable.byContradiction
  intro hc
  have : w.heap[b]? = none := Array.getElem?_eq_none (by omega)
  simp [World.cell?, this] at h
theorem below_cell {w w' : World} (hb : Below w.heap.size w w') {b o : Nat} {v : Value} (h : w.cell? ⟨b, o, none⟩ = some v) : w'.cell? ⟨b, o, none⟩ = some v := by
  rw [hb.cell (p := ⟨b, o, none⟩) (cell_lt h)]; exact h
theorem Ints.below {k : IntKind} {w w' : World} {a : Option Addr} {zs : List Int} (h : Ints k w a zs) (hb : Below w.heap.size w w') : Ints k w' a zs := by
  rcases h with h | ⟨b, off, ha, h⟩
  · exact .inl h
  · exact .inr ⟨b, off, ha, fun i hi => below_cell hb (h i hi)⟩
theorem chain {a b c : World} (h : Below a.heap.size a b) (k : Below b.heap.size b c) : Below a.heap.size a c := h.trans (k.mono h.size)
theorem below_drewN (w : World) (q : Nat) : Below w.heap.size w (w.drewN q) := ⟨rfl, rfl, rfl, Nat.le_refl _, fun _ _ => rfl⟩
theorem drewN_add {w w1 w2 : World} {q q2 : Nat} (h1 : w1 = w.drewN q) (h2 : w2 = w1.drewN q2) : ∃ q, w2 = w.drewN q := ⟨q + q2, by rw [h2, h1, World.drewN_drewN]⟩
theorem ex_name {E : Exit → Act → World → Prop} {x : Exit} {a : Act} {W : World} (R : World → Prop) (hR : R W) (h : ∀ w1, R w1 → E x a w1) : E x a W := h W hR
theorem wp_name {P : Program} {c : Code} {K : Exit → Act → World → Prop} {a : Act} {W : World} (R : World → Prop) (hR : R W) (h : ∀ w1, R w1 → Code.wp P c K a w1) : Code.wp P c K a W := h W hR

/-- a block of the call's own that holds just these bytes -/
def bytesObj (zs : List Int) : Obj := .cells (zs.map (Value.int .u8)).toArray 5
theorem ints_new (w : World) (zs : List Int) : Ints .u8 (w.alloc (bytesObj zs)) (some ⟨w.heap.size, 0, none⟩) zs := by
  refine .inr ⟨w.heap.size, 0, rfl, fun i hi => ?_⟩
  unfold World.cell?
  rw [heap_alloc_new]
  simp [bytesObj, List.getD_eq_getElem?_getD, hi]

theorem Try.info5 : (Try.prog.info? 5).map (fun i => (i.zero, i.size, i.bytes)) = some (some (.int .u8 0), 1, 1) := by kernel_rfl
theorem Try.size5 : (Try.prog.info? 5).map (·.size) = some 1 := by kernel_rfl
theorem setRow_alloc (w : World) (cur cs : Array Value) (t : TypeId) : (w.alloc (.cells cur t)).setRow w.heap.size cs = w.alloc (.cells cs t) := by
  simp only [World.setRow, World.alloc]
  congr 1
  apply Array.ext
  · simp
  · intro i h1 h2
    simp only [Array.getElem_modify, Array.getElem_push]
    by_cases e : i < w.heap.size
    · simp [e, Nat.ne_of_gt e]
    · have : w.heap.size = i := by simp at h2; omega
      simp [this]
/-- 'copy' into a row that the call has just made, of the same length -/
theorem copy_run (ad : Addr) (cap : Nat) (zs : List Int) (w : World) (h : Ints .u8 w (some ad) zs) (z : Value) :
    (Builtin.copy_ #[25, 25] 3 #[.slice (some ⟨w.heap.size, 0, none⟩) zs.length zs.length, .slice (some ad) zs.length cap]).run Try.prog (w.alloc (.cells (madeCells #[z] zs.length) 5)) = .ok (goInt zs.length) (w.alloc (bytesObj zs)) := by
  have hg : (w.alloc (.cells (madeCells #[z] zs.length) 5)).heap[w.heap.size]? = some (.cells (madeCells #[z] zs.length) 5 (0, 0)) := by
    show (w.heap.push _)[w.heap.size]? = _
    simp
  have hb : Below w.heap.size w (w.alloc (.cells (madeCells #[z] zs.length) 5)) := (Below.refl _ w).alloc (Nat.le_refl _) _
  have hl : (zs.map (Value.int .u8)).length = zs.length := by simp
  have hcs : (madeCells #[z] zs.length).size = zs.length := by simp [madeCells]
  have hr := run_copy_row (P := Try.prog) (w.alloc (.cells (madeCells #[z] zs.length) 5)) 25 25 3 5 w.heap.size 0 zs.length zs.length ad zs.length cap (madeCells #[z] zs.length) 5 (zs.map (Value.int .u8)) Try.underlying25 Try.size5 hg (by rw [hl]; exact (Nat.min_self _).symm)
    (fun j v hj => by
      have hjl : j < zs.length := by
        have := (List.getElem?_eq_some_iff.1 hj).1
        simpa using this
      obtain ⟨b, off, e', hc⟩ := (h.below hb).at hjl
      injection e' with e'
      subst e'
      have hv : v = .int .u8 (zs.getD j 0) := by
        rw [List.getElem?_map, List.getElem?_eq_getElem hjl] at hj
        simp at hj
        rw [← hj]; simp [List.getD_eq_getElem?_getD, hjl]
      rw [hv, Addr.add_lit]
      exact hc j hjl)
    (by rw [hl, hcs]; omega) (fun v hv => by simp at hv; obtain ⟨z, _, rfl⟩ := hv; rfl)
  rw [hr, hl, List.take_zero, List.nil_append, List.drop_of_length_le (by simp [madeCells]), List.append_nil, setRow_alloc]
  rfl

set_option maxRecDepth 100000 in
set_option maxHeartbeats 400000 in
theorem cloneBytes_some (ad : Addr) (cap : Nat) (zs : List Int) (w : World) (h : Ints .u8 w (some ad) zs) (hl : zs.length ≤ 1048576) :
    Calls Try.prog 7 #[.slice (some ad) zs.length cap] w fun e w' => e = .returned (.slice (some ⟨w.heap.size, 0, none⟩) zs.length zs.length) ∧ w' = w.alloc (bytesObj zs) := by
  have hn := fun (w : World) => Lib.run_eql_slice_nil (P := Try.prog) w 25 5 (some ad) zs.length cap 0 0 Try.underlying25
  have hmk := run_make_row' (P := Try.prog) 25 5 (.int .u8 0) 1 Try.underlying25 Try.info5 rfl .i64 .i64 zs.length (by omega) (by omega)
  have hcp := copy_run ad cap zs w h (.int .u8 0)
  clear h
  generalize bytesObj zs = o at *
  go_enter Try.func7, Try.ntmps7
  go_wp2
  go_ret
  exact ⟨rfl, rfl⟩
theorem cloneBytes_nil (w : World) : Calls Try.prog 7 #[.slice none 0 0] w fun e w' => e = .returned (.slice none 0 0) ∧ w' = w := by
  have hn := fun (w : World) => Lib.run_eql_slice_nil (P := Try.prog) w 25 5 none 0 0 0 0 Try.underlying25
  go_enter Try.func7, Try.ntmps7
  go_wp2
  go_ret
  exact ⟨rfl, rfl⟩

/-- pairs in memory: keys 'ks', values at 'va' with the bytes 'zs' -/
structure PIn (w : World) (a : Option Addr) (m : Nat) (ks : Nat → ByteArray) (va : Nat → Option Addr) (zs : Nat → List Int) (vc : Nat → Nat) : Prop where
  h : m = 0 ∨ ∃ b off, a = some ⟨b, off, none⟩ ∧ ∀ j, j < m → w.cell? ⟨b, off + j * 2, none⟩ = some (.string (ks j)) ∧ w.cell? ⟨b, off + j * 2 + 1, none⟩ = some (.slice (va j) (zs j).length (vc j))
  v : ∀ j, j < m → Ints .u8 w (va j) (zs j) ∧ (va j = none → zs j = [] ∧ vc j = 0)
  kl : ∀ j, j < m → (ks j).size ≤ maxLen
  zl : ∀ j, j < m → (zs j).length ≤ maxLen
theorem PIn.at {w : World} {a : Option Addr} {m : Nat} {ks : Nat → ByteArray} {va : Nat → Option Addr} {zs : Nat → List Int} {vc : Nat → Nat} (h : PIn w a m ks va zs vc) (hm : 0 < m) :
    ∃ b off, a = some ⟨b, off, none⟩ ∧ ∀ j, j < m → w.cell? ⟨b, off + j * 2, none⟩ = some (.string (ks j)) ∧ w.cell? ⟨b, off + j * 2 + 1, none⟩ = some (.slice (va j) (zs j).length (vc j)) := by
  rcases h.h with h | h
  · omega
  · exact h
theorem PIn.below {w w' : World} {a : Option Addr} {m : Nat} {ks : Nat → ByteArray} {va : Nat → Option Addr} {zs : Nat → List Int} {vc : Nat → Nat} (h : PIn w a m ks va zs vc) (hb : Below w.heap.size w w') : PIn w' a m ks va zs vc := by
  refine ⟨?_, fun j hj => ⟨(h.v j hj).1.below hb, (h.v j hj).2⟩, h.kl, h.zl⟩
  rcases h.h with h1 | ⟨b, off, ha, h1⟩
  · exact .inl h1
  · exact .inr ⟨b, off, ha, fun j hj => ⟨below_cell hb (h1 j hj).1, below_cell hb (h1 j hj).2⟩⟩

end Go.Proofs.Qxb6615059a
