/-
  FnAppendBytesKeepsTheOrderOfValues: the clone, the append.
-/
import Derived.Test.Qxb6615824aCmp
import Derived.Deep.OwnRows
import Derived.Deep.AppendSrc
import Derived.ArgAppend
import Derived.Laws.NewBlocks
import Derived.Laws.Rows
namespace Go.Proofs.Qxb6615824a
open Go.RowKit
set_option linter.unusedVariables false

theorem Try.info5 : (Try.prog.info? 5).map (fun i => (i.zero, i.size, i.bytes)) = some (some (.int .u8 0), 1, 1) := by kernel_rfl

theorem cloneB_nil (w : World) : Calls Try.prog 10 #[.slice none 0 0] w fun e w' => e = .returned (.slice none 0 0) ∧ w' = w := by
  have hn := fun (w : World) => Lib.run_eql_slice_nil (P := Try.prog) w 25 5 none 0 0 0 0 Try.underlying25
  go_enter Try.func10, Try.ntmps10
  go_wp2
  go_ret
  exact ⟨rfl, rfl⟩

/-- The new row, filled up to k. -/
structure Fill (w wr : World) (n : Nat) (f : Nat → Int) (k : Nat) : Prop where
  bel : Below w.heap.size w wr
  sz : w.heap.size < wr.heap.size
  lo : ∀ i, i < k → wr.cell? ⟨w.heap.size, i, none⟩ = some (.int .u8 (f i))
  hi : ∀ i, k ≤ i → i < n → wr.cell? ⟨w.heap.size, i, none⟩ = some (.int .u8 0)
  fz : ∀ i, wr.frozen? ⟨w.heap.size, i, none⟩ = false

theorem Fill.start (w : World) (n : Nat) (f : Nat → Int) : Fill w (w.alloc (.cells (madeCells #[.int .u8 0] n) 5)) n f 0 := by
  have hB : (w.alloc (.cells (madeCells #[.int .u8 0] n) 5)).heap[w.heap.size]? = some (.cells (madeCells #[.int .u8 0] n) 5) := heap_alloc_new w _
  refine ⟨(Below.refl _ w).alloc (Nat.le_refl _) _, by simp, fun i h => absurd h (by omega), fun i _ hi => ?_, fun i => ?_⟩
  · simp only [World.cell?, hB]
    simp [madeCells, hi, Nat.mod_one]
  · simp only [World.frozen?, hB]
    simp
theorem Fill.step {w wr : World} {n : Nat} {f : Nat → Int} {k : Nat} (h : Fill w wr n f k) (hk : k < n) : Fill w (wr.setCell ⟨w.heap.size, k, none⟩ (.int .u8 (f k))) n f (k + 1) := by
  refine ⟨h.bel.trans ((Below.refl _ wr).setCell (by simp) _), by simpa using h.sz, fun i hi => ?_, fun i h1 h2 => ?_, fun i => ?_⟩
  · by_cases e : i = k
    · subst e; exact World.cell?_setCell_same _ _ _ (h.hi i (Nat.le_refl _) hk)
    · rw [World.cell?_setCell_other _ _ _ _ (by simp <;> omega)]; exact h.lo i (by omega)
  · rw [World.cell?_setCell_other _ _ _ _ (by simp <;> omega)]; exact h.hi i (by omega) h2
  · rw [World.frozen?_setCell]; exact h.fz i

set_option maxRecDepth 100000 in
set_option maxHeartbeats 1000000 in
theorem cloneB_some (x : Addr) (n cap : Nat) (f : Nat → Int) (w : World) (h : Bys w (some x) n f) (hn : n ≤ 1048576) :
    Calls Try.prog 10 #[.slice (some x) n cap] w fun e w' => e = .returned (.slice (some ⟨w.heap.size, 0, none⟩) n n) ∧ Fill w w' n f n := by
  have hnil := fun (w : World) => Lib.run_eql_slice_nil (P := Try.prog) w 25 5 (some x) n cap 0 0 Try.underlying25
  have hmk := run_make_row' (P := Try.prog) 25 5 (.int .u8 0) 1 Try.underlying25 Try.info5 rfl .i64 .i64 n (by omega) (by omega)
  have HA : Hid (Bys w (some x) n f) := h
  clear h
  go_enter Try.func10, Try.ntmps10
  go_wp2
  go_loopw [4] (fun i wr => ∃ k : Nat, k ≤ n ∧ i = .int .i64 k ∧ Fill w wr n f k) (fun i _ => n - (intOf i).toNat)
  case atStart => exact ⟨0, Nat.zero_le _, rfl, Fill.start w n f⟩
  case round =>
    obtain ⟨k, hkn, rfl, hF⟩ := hrel
    have HF : Hid (Fill w wr n f k) := hF
    clear hF
    by_cases hlt : k < n
    · obtain ⟨b1, o1, hx, hl1, hc1⟩ := HA.out.at hlt
      injection hx with hx
      subst hx
      have c1 : wr.cell? ⟨b1, o1 + k, none⟩ = some (.int .u8 (f k)) := by rw [HF.out.bel.cell (p := ⟨b1, o1 + k, none⟩) hl1]; exact hc1 k hlt
      have c2 : wr.cell? ⟨w.heap.size, k, none⟩ = some (.int .u8 0) := HF.out.hi k (Nat.le_refl _) hlt
      have c3 : wr.frozen? ⟨w.heap.size, k, none⟩ = false := HF.out.fz k
      have hS : Hid (Fill w (wr.setCell ⟨w.heap.size, k, none⟩ (.int .u8 (f k))) n f (k + 1)) := HF.out.step hlt
      clear hc1 HF
      go_wp2
      go_roundw
      case rel => exact ⟨k + 1, by omega, by go_num, hS.out⟩
      case measure => simp [intOf]; omega
    · obtain rfl : k = n := by omega
      go_wp2
      go_ret
      exact ⟨rfl, HF.out⟩

theorem info5' : ∃ i, Try.prog.info? 5 = some i ∧ i.zero = some (.int .u8 0) ∧ i.size = 1 ∧ i.bytes = 1 := by
  obtain ⟨i, hi, hzz⟩ := Option.map_eq_some_iff.1 Try.info5
  simp only [Prod.mk.injEq] at hzz
  exact ⟨i, hi, hzz.1, hzz.2.1, hzz.2.2⟩

theorem byteCells_get (s : ByteArray) (i : Nat) (hi : i < s.size) : (byteCells s)[i]? = some (.int .u8 (byteAt s i)) := by
  have h2 : i < s.data.size := hi
  unfold byteCells
  rw [List.getElem?_map, Array.getElem?_toList, Array.getElem?_eq_getElem h2]
  simp only [Option.map_some, byteAt, hi, dite_true]
  rfl

theorem append_run (a : Option Addr) (n : Nat) (f : Nat → Int) (s : ByteArray) (w : World) (h : Bys w a n f) (ha : (a = none ∧ n = 0) ∨ ∃ g, a = some ⟨g, 0, none⟩) (hn : n ≤ 1048576) (hs : s.size ≤ 1048576) :
    ∃ a' c' w', (∀ ty, (Builtin.append_ #[25, 9] ty #[.slice a n n, .string s]).run Try.prog w = .ok (.slice a' (n + s.size) c') w') ∧ Bys w' a' (n + s.size) (fun i => if i < n then f i else byteAt s (i - n)) ∧ Below w.heap.size w w' := by
  obtain ⟨i, hi, hz, hsz, hby⟩ := info5'
  by_cases h0 : s.size = 0
  · have hbc : byteCells s = [] := List.eq_nil_of_length_eq_zero (by rw [byteCells_length]; exact h0)
    have hB : Bys w a (n + s.size) (fun i => if i < n then f i else byteAt s (i - n)) := by
      rw [h0, Nat.add_zero]
      rcases h with h | ⟨b, off, e, hl, hc⟩
      · exact .inl h
      · exact .inr ⟨b, off, e, hl, fun i hi => by simp only [hi, if_true]; exact hc i hi⟩
    rcases ha with ⟨rfl, rfl⟩ | ⟨g, rfl⟩
    · refine ⟨none, 0, w, fun ty => ?_, hB, Below.refl _ _⟩
      have hsrc := Src.ofString (P := Try.prog) w Try.underlying9 s
      simp [Builtin.append_, run_underlying Try.underlying25, run_underlying Try.underlying9, sizeOf, typeInfo, hi, hsrc.len, h0, hsz]
      have := hsrc.cells
      rw [h0] at this
      simp [this]
    · refine ⟨some ⟨g, 0, none⟩, n, w, fun ty => ?_, hB, Below.refl _ _⟩
      have := run_append_room_src (P := Try.prog) w 25 9 ty 5 i Try.underlying25 hi g 0 n n (.string s) s.size (byteCells s) (by rw [hsz]; exact Src.ofString w Try.underlying9 s) (by omega) (by rw [hbc]; intro j hj; simp at hj) (by rw [hbc]; intro j hj; simp at hj)
      rw [this, hbc]
      rfl
  · let fs : List Value := (List.range n).map fun i => Value.int .u8 (f i)
    have hfl : fs.length = n := by simp [fs]
    have hfg : ∀ i, i < n → fs[i]? = some (.int .u8 (f i)) := by
      intro i hi
      simp [fs, hi]
    have hold : (Builtin.firstCells i.size n (.slice a n n)).run Try.prog w.drew = .ok fs.toArray w.drew := by
      rw [hsz]
      rcases ha with ⟨rfl, rfl⟩ | ⟨g, rfl⟩
      · rw [run_firstCells_none]; rfl
      · refine run_firstCells_some w.drew 1 n ⟨g, 0, none⟩ n n fs (by rw [hfl]; omega) fun j v hj => ?_
        have hjn : j < n := by rw [← hfl]; exact (List.getElem?_eq_some_iff.1 hj).1
        rw [hfg j hjn] at hj
        obtain ⟨b, off, e, hl, hc⟩ := h.at hjn
        injection e with e
        injection e with e1 e2
        subst e1 e2
        rw [World.cell?_drew, Addr.add_lit, hc j hjn]
        exact hj
    have hrun := fun ty => run_append_grow_src (P := Try.prog) w 25 9 ty 5 i (.int .u8 0) Try.underlying25 hi hz a n n fs hold (.string s) s.size (byteCells s) (by rw [hsz]; exact Src.ofString w Try.underlying9 s) (by omega) (by omega) (growslice_fits (by omega) (by rw [hby]; omega))
    refine ⟨_, _, _, hrun, ?_, ?_⟩
    · refine .inr ⟨w.heap.size, 0, rfl, by simp, fun j hj => ?_⟩
      have hB : ∀ o : Obj, (w.drew.alloc o).heap[w.heap.size]? = some o := fun o => heap_alloc_new w.drew o
      simp only [World.cell?, hB, Nat.zero_add]
      have hlen : (fs ++ byteCells s).length = n + s.size := by rw [List.length_append, hfl, byteCells_length]
      rw [if_neg (by simp), Array.getElem?_append_left (by simp [hfl, byteCells_length]; exact hj), List.getElem?_toArray]
      by_cases hjn : j < n
      · rw [List.getElem?_append_left (by omega), hfg j hjn]; simp [hjn]
      · rw [List.getElem?_append_right (by omega), hfl, byteCells_get s (j - n) (by omega)]; simp [hjn]
    · exact ((Below.refl _ w).drew).alloc (by simp) _

theorem wpList_append_eq {P : Program} (w : World) {ops : Array Oper} {rest : List Oper} {o : Oper} {a : Act} {Q : Exit → Act → World → Prop}
    (hg : o.guard = none) (s x : Operand) (t tx : TypeId) (hop : o.op = Op.call { callee := Callee.builtin Builtin.append, args := #[s, x], argTypes := #[t, tx] })
    (vs vx v' : Value) (w' : World) (hs : a.eval s = vs) (hx : a.eval x = vx) (hrun : ∀ ty, (Builtin.append_ #[t, tx] ty #[vs, vx]).run P w = .ok v' w')
    (hK : wpList P ops Q rest (a.put o.dst v') w') : wpList P ops Q (o :: rest) a w := by
  refine wpList_plain hg fun K hK' => ?_
  unfold Oper.wp
  simp [execOp, hop, resolve, invoke, builtin, hs, hx, hrun, Result.andThen]
  exact hK' _ _ hK

set_option maxRecDepth 100000 in
set_option maxHeartbeats 1000000 in
theorem app15 (a : Option Addr) (n : Nat) (f : Nat → Int) (s : ByteArray) (w : World) (h : Bys w a n f) (ha : (a = none ∧ n = 0) ∨ ∃ g, a = some ⟨g, 0, none⟩) (hn : n ≤ 1048576) (hs : s.size ≤ 1048576) :
    Calls Try.prog 15 #[.slice a n n, .string s] w fun e w' => ∃ a' c', e = .returned (.slice a' (n + s.size) c') ∧ Bys w' a' (n + s.size) (fun i => if i < n then f i else byteAt s (i - n)) ∧ Below w.heap.size w w' := by
  obtain ⟨a', c', w', hrun, hB, hL⟩ := append_run a n f s w h ha hn hs
  have HB : Hid (Bys w' a' (n + s.size) (fun i => if i < n then f i else byteAt s (i - n)) ∧ Below w.heap.size w w') := ⟨hB, hL⟩
  have HRUN : Hid _ := hrun
  clear hB hL h ha hrun
  go_enter Try.func15, Try.ntmps15
  go_wp2_with (at_builtin; refine wpList_append_eq _ rfl (.tmp 5) (.tmp 6) 25 9 rfl (.slice a n n) (.string s) (.slice a' (n + s.size) c') w' rfl rfl HRUN.out ?_)
  go_ret
  exact ⟨a', c', rfl, HB.out⟩

set_option maxRecDepth 100000 in
set_option maxHeartbeats 1000000 in
theorem app11 (a : Option Addr) (n : Nat) (f : Nat → Int) (s : ByteArray) (w : World) (h : Bys w a n f) (ha : (a = none ∧ n = 0) ∨ ∃ g, a = some ⟨g, 0, none⟩) (hn : n ≤ 1048576) (hs : s.size ≤ 1048576) :
    Calls Try.prog 11 #[.slice a n n, .string s] w fun e w' => ∃ a' c', e = .returned (.slice a' (n + s.size) c') ∧ Bys w' a' (n + s.size) (fun i => if i < n then f i else byteAt s (i - n)) ∧ Below w.heap.size w w' := by
  have H := fun (w : World) h => app15 a n f s w h ha hn hs
  have HH : Hid _ := H
  have HW : Hid (Bys w a n f) := h
  clear h ha H
  go_enter Try.func11, Try.ntmps11
  go_wp2_with fail
  refine (HH.out w HW.out).mono ?_
  rintro e w' ⟨a', c', rfl, hR⟩
  have HR : Hid _ := hR
  clear hR
  go_wp2
  go_ret
  exact ⟨a', c', rfl, HR.out⟩
end Go.Proofs.Qxb6615824a
