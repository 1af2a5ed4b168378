/-
  eventQueue.cancelEnd, ZZcancelEnd; what is read of the queue.
-/
import Derived.Test.Qxb6614809aTake
import Derived.Laws.CopyOwn
import Derived.Deep.OwnRows
namespace Go.Proofs.Qxb6614809a
open Go.RowKit
set_option linter.unusedVariables false

set_option maxRecDepth 100000 in
set_option maxHeartbeats 1000000 in
theorem cancel_of (bq p : Nat) (t s k r : Int) (ok : Bool) (w : World) (R : World → Prop) (hR : ∀ w' o, R w' → R (w'.alloc o))
    (h : Calls Try.prog 19 #[.pointer (some ⟨bq, 0, none⟩), .int .i64 p] w fun e w' => e = .returned (.tuple #[.agg #[.int .i64 t, .int .u64 s, .int .u8 k, .int .i64 r], .bool ok]) ∧ R w') :
    Calls Try.prog 18 #[.pointer (some ⟨bq, 0, none⟩), .int .i64 p] w fun e w' => e = .returned (.tuple #[.int .i64 t, .bool ok]) ∧ R w' := by
  have H : Hid _ := h
  have HR : Hid _ := hR
  clear h hR
  go_enter Try.func18, Try.ntmps18
  go_wp2_with fail
  refine Calls.mono (show Calls Try.prog 19 #[.pointer (some ⟨bq, 0, none⟩), .int .i64 p] w (fun e w' => e = .returned (.tuple #[.agg #[.int .i64 t, .int .u64 s, .int .u8 k, .int .i64 r], .bool ok]) ∧ R w') from H.out) ?_
  rintro e w1 ⟨rfl, h1⟩
  have H1 : Hid (R w1) := h1
  clear h1
  go_wp2
  go_ret2
  exact ⟨rfl, HR.out _ _ H1.out⟩

set_option maxRecDepth 100000 in
set_option maxHeartbeats 1000000 in
theorem zzcancel_of (bq p : Nat) (t s k r : Int) (ok : Bool) (w : World) (R : World → Prop) (hR : ∀ w' o, R w' → R (w'.alloc o))
    (h : Calls Try.prog 19 #[.pointer (some ⟨bq, 0, none⟩), .int .i64 p] w fun e w' => e = .returned (.tuple #[.agg #[.int .i64 t, .int .u64 s, .int .u8 k, .int .i64 r], .bool ok]) ∧ R w') :
    Calls Try.prog 9 #[.pointer (some ⟨bq, 0, none⟩), .int .i64 p] w fun e w' => e = .returned (.tuple #[.int .i64 t, .bool ok]) ∧ R w' := by
  have H : Hid _ := cancel_of bq p t s k r ok w R hR h
  clear h hR
  go_enter Try.func9, Try.ntmps9
  go_wp2_with fail
  refine Calls.mono (show Calls Try.prog 18 #[.pointer (some ⟨bq, 0, none⟩), .int .i64 p] w (fun e w' => e = .returned (.tuple #[.int .i64 t, .bool ok]) ∧ R w') from H.out) ?_
  rintro e w1 ⟨rfl, h1⟩
  have H1 : Hid (R w1) := h1
  clear h1
  go_wp2
  go_ret2
  exact ⟨rfl, H1.out⟩

theorem Removed.alloc {N : Nums} {n m i0 q : Nat} {L : Nat → Ev} {P : Nat → Int} {w w' : World} (h : Removed N n m i0 q L P w w') (o : Obj) : Removed N n m i0 q L P w (w'.alloc o) := by
  obtain ⟨L', P', a, b, c⟩ := h
  exact ⟨L', P', a.alloc o, b.alloc o, c⟩

set_option maxHeartbeats 400000 in
theorem len_any (bq n cap : Nat) (ao : Option Addr) (w : World) (c0 : w.cell? ⟨bq, 0, none⟩ = some (.slice ao n cap)) :
    Calls Try.prog 10 #[.pointer (some ⟨bq, 0, none⟩)] w fun e w' => e = .returned (.int .i64 n) ∧ w' = w := by
  go_enter Try.func10, Try.ntmps10
  go_wp2
  go_ret
  exact ⟨rfl, rfl⟩

set_option maxHeartbeats 400000 in
theorem place_any (bq m capP : Nat) (ao : Option Addr) (w : World) (c3 : w.cell? ⟨bq, 3, none⟩ = some (.slice ao m capP)) :
    Calls Try.prog 11 #[.pointer (some ⟨bq, 0, none⟩)] w fun e w' => e = .returned (.slice ao m capP) ∧ w' = w := by
  go_enter Try.func11, Try.ntmps11
  go_wp2
  go_ret
  exact ⟨rfl, rfl⟩

set_option maxRecDepth 100000 in
set_option maxHeartbeats 400000 in
theorem item_any (bq bi n cap i : Nat) (x : Ev) (w : World) (hq : bq < w.heap.size) (hi : bi < w.heap.size) (hin : i < n) (hn : n ≤ 4096) (c0 : w.cell? ⟨bq, 0, none⟩ = some (.slice (some ⟨bi, 0, none⟩) n cap))
    (d0 : w.cell? ⟨bi, i * 4, none⟩ = some (.int .i64 x.t)) (d1 : w.cell? ⟨bi, i * 4 + 1, none⟩ = some (.int .u64 x.s)) (d2 : w.cell? ⟨bi, i * 4 + 2, none⟩ = some (.int .u8 x.k)) (d3 : w.cell? ⟨bi, i * 4 + 3, none⟩ = some (.int .i64 x.r)) :
    Calls Try.prog 13 #[.pointer (some ⟨bq, 0, none⟩), .int .i64 i] w fun e w' => e = .returned (.tuple #[.int .i64 x.t, .int .u64 x.s, .int .u8 x.k, .int .i64 x.r]) ∧ Below w.heap.size w w' := by
  go_enter Try.func13, Try.ntmps13
  go_wp2
  go_quiet (fail)
  go_wp2
  refine bodyPost_ret (v := .tuple #[.int .i64 x.t, .int .u64 x.s, .int .u8 x.k, .int .i64 x.r]) (by simp [results, Try.results13, go_sem]) rfl ⟨rfl, ?_⟩
  exact ⟨rfl, rfl, rfl, by simp, fun k hk => Below.heap_alloc _ _ _ hk⟩

theorem Try.info3 : (Try.prog.info? 3).map (fun i => (i.zero, i.size, i.bytes)) = some (some (.int .i64 0), 1, 8) := by kernel_rfl
theorem Try.size3 : (Try.prog.info? 3).map (·.size) = some 1 := by kernel_rfl

/-- a block of the call's own that holds just these numbers -/
def Row (k : IntKind) (e : TypeId) (w : World) (b : Nat) (zs : List Int) : Prop := w.heap[b]? = some (.cells (zs.map (Value.int k)).toArray e (0, 0))
theorem Row.cell {k : IntKind} {e : TypeId} {w : World} {b : Nat} {zs : List Int} (h : Row k e w b zs) {i : Nat} (hi : i < zs.length) : w.cell? ⟨b, i, none⟩ = some (.int k (zs.getD i 0)) := by
  unfold Row at h
  simp [World.cell?, h, List.getD_eq_getElem?_getD, hi]
theorem Row.ints {k : IntKind} {e : TypeId} {w : World} {b : Nat} {zs : List Int} (h : Row k e w b zs) : Ints k w (some ⟨b, 0, none⟩) zs :=
  .inr ⟨b, 0, rfl, fun i hi => by rw [Nat.zero_add]; exact h.cell hi⟩
theorem Row.frozen {k : IntKind} {e : TypeId} {w : World} {b : Nat} {zs : List Int} (h : Row k e w b zs) (o : Nat) : w.frozen? ⟨b, o, none⟩ = false := by
  unfold Row at h
  simp [World.frozen?, h]
theorem Row.lt {k : IntKind} {e : TypeId} {w : World} {b : Nat} {zs : List Int} (h : Row k e w b zs) : b < w.heap.size := by
  unfold Row at h
  exact (Array.getElem?_eq_some_iff.1 h).1
theorem Ints.below {k : IntKind} {w w' : World} {a : Option Addr} {zs : List Int} (h : Ints k w a zs) (hb : Below w.heap.size w w') : Ints k w' a zs := by
  rcases h with h | ⟨b, off, ha, h⟩
  · exact .inl h
  · refine .inr ⟨b, off, ha, fun i hi => ?_⟩
    have h1 := h i hi
    have hlt : b < w.heap.size := by
      apply Decidable.byContradiction
      intro hc
      have : w.heap[b]? = none := Array.getElem?_eq_none (by omega)
      simp [World.cell?, this] at h1
    rw [hb.cell (p := ⟨b, off + i, none⟩) hlt]
    exact h1

theorem splice_all {α : Type} (L cs : List α) (h : cs.length = L.length) : splice L 0 cs = cs := by
  unfold splice
  rw [List.take_zero, List.nil_append, List.drop_of_length_le (by omega), List.append_nil]
theorem madeCells_len (z : Value) (n : Nat) : (madeCells #[z] n).toList.length = n := by simp [madeCells]

/-- 'copy' into a row that the call has just made, of the same length -/
theorem copy_run (k : IntKind) (dT e : TypeId) (hu : Try.prog.underlying dT = some (.slice e)) (hs : (Try.prog.info? e).map (·.size) = some 1) (ad : Addr) (cap : Nat) (zs : List Int) (w : World) (h : Ints k w (some ad) zs) (z : Value) :
    ∃ w2, (Builtin.copy_ #[dT, dT] 3 #[.slice (some ⟨w.heap.size, 0, none⟩) zs.length zs.length, .slice (some ad) zs.length cap]).run Try.prog (w.alloc (.cells (madeCells #[z] zs.length) e)) = .ok (goInt zs.length) w2 ∧ Row k e w2 w.heap.size zs ∧ Below w.heap.size w w2 := by
  have hg : (w.alloc (.cells (madeCells #[z] zs.length) e)).heap[w.heap.size]? = some (.cells (madeCells #[z] zs.length) e (0, 0)) := by
    show (w.heap.push _)[w.heap.size]? = _
    simp
  have hb : Below w.heap.size w (w.alloc (.cells (madeCells #[z] zs.length) e)) := (Below.refl _ w).alloc (Nat.le_refl _) _
  have hl : (zs.map (Value.int k)).length = zs.length := by simp
  have hcs : (madeCells #[z] zs.length).size = zs.length := by simp [madeCells]
  have hr := run_copy_row (P := Try.prog) (w.alloc (.cells (madeCells #[z] zs.length) e)) dT dT 3 e w.heap.size 0 zs.length zs.length ad zs.length cap (madeCells #[z] zs.length) e (zs.map (Value.int k)) hu hs hg (by rw [hl]; exact (Nat.min_self _).symm)
    (fun j v hj => by
      have hjl : j < zs.length := by
        have := (List.getElem?_eq_some_iff.1 hj).1
        simpa using this
      obtain ⟨b, off, e', hc⟩ := (h.below hb).at hjl
      injection e' with e'
      subst e'
      have hv : v = .int k (zs.getD j 0) := by
        rw [List.getElem?_map, List.getElem?_eq_getElem hjl] at hj
        simp at hj
        rw [← hj]; simp [List.getD_eq_getElem?_getD, hjl]
      rw [hv, Addr.add_lit]
      exact hc j hjl)
    (by rw [hl, hcs]; omega) (fun v hv => by simp at hv; obtain ⟨z, _, rfl⟩ := hv; rfl)
  refine ⟨_, by rw [hr, hl], ?_, below_setRow hb (Nat.le_refl _) _⟩
  unfold Row
  rw [setRow_heap _ _ _ _ _ _ hg]
  congr 2
  rw [List.take_zero, List.nil_append, List.drop_of_length_le (by simp [madeCells]), List.append_nil]

set_option maxRecDepth 100000 in
set_option maxHeartbeats 400000 in
theorem cloneInt_some (ad : Addr) (cap : Nat) (zs : List Int) (w : World) (h : Ints .i64 w (some ad) zs) (hl : zs.length ≤ 65536) :
    Calls Try.prog 6 #[.slice (some ad) zs.length cap] w fun e w' => e = .returned (.slice (some ⟨w.heap.size, 0, none⟩) zs.length zs.length) ∧ Row .i64 3 w' w.heap.size zs ∧ Below w.heap.size w w' := by
  have hn := fun (w : World) => Lib.run_eql_slice_nil (P := Try.prog) w 25 3 (some ad) zs.length cap 0 0 Try.underlying25
  have hmk := run_make_row' (P := Try.prog) 25 3 (.int .i64 0) 8 Try.underlying25 Try.info3 rfl .i64 .i64 zs.length (by omega) (by omega)
  obtain ⟨w2, hcp, hR, hB⟩ := copy_run .i64 25 3 Try.underlying25 Try.size3 ad cap zs w h (.int .i64 0)
  have HR : Hid (Row .i64 3 w2 w.heap.size zs) := hR
  have HB : Hid (Below w.heap.size w w2) := hB
  clear h hR hB
  go_enter Try.func6, Try.ntmps6
  go_wp2
  go_ret
  exact ⟨rfl, HR.out, HB.out⟩

theorem cloneInt_nil (w : World) : Calls Try.prog 6 #[.slice none 0 0] w fun e w' => e = .returned (.slice none 0 0) ∧ w' = w := by
  have hn := fun (w : World) => Lib.run_eql_slice_nil (P := Try.prog) w 25 3 none 0 0 0 0 Try.underlying25
  go_enter Try.func6, Try.ntmps6
  go_wp2
  go_ret
  exact ⟨rfl, rfl⟩

end Go.Proofs.Qxb6614809a
