/-
  FnTallyOfScriptCountsDistinctNames: the atomic pointer; the clone of a map; how the map reads.
-/
import Derived.Test.Qxb6615782aOnce
import Derived.Test.Qxb6615782aUntil
import Derived.Maps.Own
import Derived.Maps.OwnSet
import Derived.Maps.Views
import Derived.Lib.Builder
import Derived.Laws.Externs
import Derived.MapKept
import Derived.Laws.Rows
namespace Go.Proofs.Qxb6615782a.tal
open Go.RowKit Go.Maps
set_option linter.unusedVariables false

/-- How an element reads: by its block's number. -/
def RT : Value → Option (DataW Unit × List MemPlace)
  | .pointer none => some (.nil, [])
  | .pointer (some ⟨g, 0, none⟩) => some (.lit (.int .u64 g), [])
  | _ => none
theorem RT_inv {v : Value} {g : Nat} {ps : List MemPlace} (h : RT v = some (.lit (.int .u64 g), ps)) : v = .pointer (some ⟨g, 0, none⟩) := by
  unfold RT at h
  split at h
  · simp at h
  · rename_i g'
    simp at h
    have e : g' = g := by omega
    rw [e]
  · cases h

theorem law : Keyed Try.prog 9 := string_keyed Try.underlying9
def kl (s : ByteArray) : Lit := .string s.data.toList
theorem key_of {s : ByteArray} (h : s.size ≤ maxLen) : keyOf Try.prog 9 (.string s) = some (kl s) := Go.WideMaps.keyOf_string_mk Try.underlying9 h
theorem kl_ne {s t : ByteArray} (h : s ≠ t) : kl s ≠ kl t := by
  intro e
  apply h
  unfold kl at e
  injection e with e
  have : s.data = t.data := Array.toList_inj.1 e
  cases s; cases t; simp_all

theorem run_loadp {a b : Addr} {w : World} (hc : w.cell? a = some (.pointer (some b))) : (callFunc 31 #[.pointer (some a)]).run Try.prog w = .ok (.value (.pointer (some b))) w := by
  rw [run_callFunc_extern Try.func31 (by kernel_rfl) (by kernel_rfl) (by kernel_rfl) (e := Extern.Atomic.loadT .ptr) (by kernel_rfl)]
  change (Sem.run Try.prog (do Extern.Atomic.read .ptr (← asAddr (.pointer (some a)))) w).andThen _ = _
  simp [Extern.Atomic.read, asAddr, hc, Result.andThen]
theorem run_storep {a b : Addr} {u : Value} {w : World} (hc : w.cell? a = some u) (hz : w.frozen? a = false) : (callFunc 27 #[.pointer (some a), .pointer (some b)]).run Try.prog w = .ok (.value (.tuple #[])) (w.setCell a (.pointer (some b))) := by
  rw [run_callFunc_extern Try.func27 (by kernel_rfl) (by kernel_rfl) (by kernel_rfl) (e := Extern.Atomic.storeT) (by kernel_rfl)]
  change (Sem.run Try.prog (do
    store (← asAddr (.pointer (some a))) (.pointer (some b)) .atomic
    pure Extern.Atomic.none_) w).andThen _ = _
  simp [asAddr, hc, hz, run_store Try.prog w a (.pointer (some b)) .atomic rfl, Result.andThen, Extern.Atomic.none_]

theorem lies78 : liesAt Try.prog Try.prog.depth 78 (1 / Try.prog.cellsOf 78) 0 78 1 = true := by kernel_rfl
theorem info78 : ∃ j, Try.prog.info? 78 = some j := by
  have h : (Try.prog.info? 78).isSome = true := by kernel_rfl
  exact Option.isSome_iff_exists.1 h
theorem run_back {p m : Nat} {w : World} (hp : w.heap[p]? = some (.cells #[.map (some m)] 78)) : (convert 81 79 (.pointer (some ⟨p, 0, none⟩))).run Try.prog w = .ok (.pointer (some ⟨p, 0, none⟩)) w := by
  obtain ⟨j, hj⟩ := info78
  exact Lib.run_from_unsafe (P := Try.prog) (e := 78) (cells := 1) w ⟨p, 0, none⟩ Try.underlying81 Try.underlying79 hj (by simp [World.shape?, hp]) lies78

theorem run_clone {r : Nat} {es : Array MapEntry} {clock : Nat} (w : World) (hb : w.heap[r]? = some (.map es clock)) :
    (Extern.MapsClone.clone #[.iface 78 (.map (some r))]).run Try.prog w = .ok (.iface 78 (.map (some w.heap.size))) (w.alloc (.map es clock)) := by
  obtain ⟨msg, e⟩ : ∃ msg, Extern.MapsClone.clone #[.iface 78 (.map (some r))] = (getObj r >>= fun o => match o with
      | .map entries clock => (newObj (.map entries clock) >>= fun n => pure (Value.iface 78 (.map (some n))))
      | _ => stuck msg) := ⟨_, rfl⟩
  rw [e]
  simp [MapKept.run_getObj_map hb, Result.andThen, go_sem]
theorem run_assert (v : Value) (w : World) : (Instr.typeAssert (.iface 78 v) 20 78 false).run Try.prog w = .ok v w := by
  simp [Instr.typeAssert, run_underlying Try.underlying78, go_sem, Result.andThen]

set_option maxRecDepth 100000 in
set_option maxHeartbeats 1000000 in
theorem clone_some (b : Nat) (es : Array MapEntry) (clock : Nat) (w : World) (hb : w.heap[b]? = some (.map es clock)) :
    Calls Try.prog 30 #[.map (some b)] w fun e w' => e = .returned (.map (some w.heap.size)) ∧ w' = w.alloc (.map es clock) := by
  have hq := fun w => run_eql_map_nil (P := Try.prog) w 78 _ _ (some b) Try.underlying78
  go_enter Try.func30, Try.ntmps30
  go_wp2
  rw [run_callFunc_extern Try.func36 (by kernel_rfl) (by kernel_rfl) (by kernel_rfl) (e := Extern.MapsClone.clone) (by kernel_rfl), run_clone w hb]
  simp only [Result.andThen]
  rw [Oper.upon_value]
  go_wp2
  rw [run_assert]
  simp only [Result.andThen]
  rw [Oper.upon_value]
  go_wp2
  go_ret
  exact ⟨rfl, rfl⟩

/-- The counts in block c: the pointer, the lock, the map, the tallies. -/
structure Cnt (w : World) (c p m n : Nat) (D : DataW Unit) : Prop where
  cl : c < w.heap.size
  cp : c ≠ p
  cm : c ≠ m
  c1 : w.cell? ⟨c, 1, none⟩ = some (.pointer (some ⟨p, 0, none⟩))
  c2 : w.cell? ⟨c, 2, none⟩ = some (.int .i32 0)
  f1 : w.frozen? ⟨c, 1, none⟩ = false
  f2 : w.frozen? ⟨c, 2, none⟩ = false
  hp : w.heap[p]? = some (.cells #[.map (some m)] 78)
  hm : w.ownsMap Try.prog 9 RT m n D
  hk : ∀ s, has D (kl s) = true → ∃ g : Nat, D.atKey (kl s) .nil = .lit (.int .u64 g) ∧ w.cell? ⟨g, 0, none⟩ = some (.string s) ∧ g ≠ c

theorem load23 (c p m : Nat) (w : World) (c1 : w.cell? ⟨c, 1, none⟩ = some (.pointer (some ⟨p, 0, none⟩))) (hp : w.heap[p]? = some (.cells #[.map (some m)] 78)) :
    Calls Try.prog 23 #[.pointer (some ⟨c, 1, none⟩)] w fun e w' => e = .returned (.pointer (some ⟨p, 0, none⟩)) ∧ w' = w := by
  have h1 := run_loadp c1
  have h2 := run_back hp
  go_enter Try.func23, Try.ntmps23
  go_wp2
  go_ret
  exact ⟨rfl, rfl⟩

theorem store21 (c p m : Nat) (u : Value) (w : World) (c1 : w.cell? ⟨c, 1, none⟩ = some u) (f1 : w.frozen? ⟨c, 1, none⟩ = false) (hp : w.heap[p]? = some (.cells #[.map (some m)] 78)) :
    Calls Try.prog 21 #[.pointer (some ⟨c, 1, none⟩), .pointer (some ⟨p, 0, none⟩)] w fun e w' => e = .returned (.tuple #[]) ∧ w' = w.setCell ⟨c, 1, none⟩ (.pointer (some ⟨p, 0, none⟩)) := by
  have h1 := run_storep (b := ⟨p, 0, none⟩) c1 f1
  have hc : w.cell? ⟨p, 0, none⟩ = some (.map (some m)) := by simp [World.cell?, hp]
  have h2 := run_convert_to_unsafe (P := Try.prog) (src := 79) (dst := 81) Try.underlying79 Try.underlying81 (by kernel_rfl) hc
  go_enter Try.func21, Try.ntmps21
  go_wp2
  go_end0
  exact ⟨rfl, rfl⟩

theorem cell_map {w : World} {p m : Nat} (hp : w.heap[p]? = some (.cells #[.map (some m)] 78)) : w.cell? ⟨p, 0, none⟩ = some (.map (some m)) := by simp [World.cell?, hp]

theorem len18 (c p m n : Nat) (D : DataW Unit) (w : World) (h : Cnt w c p m n D) :
    Calls Try.prog 18 #[.pointer (some ⟨c, 0, none⟩)] w fun e w' => e = .returned (.int .i64 (Maps.size D)) ∧ w' = w := by
  have hc := cell_map h.hp
  have hl := fun ty => h.hm.len (t := 78) (e := 37) Try.underlying78 ty
  have HL : Hid (Cnt w c p m n D) := h
  clear h
  generalize hz : Maps.size D = z at *
  go_enter Try.func18, Try.ntmps18
  go_wp2_with fail
  refine (load23 c p m w HL.out.c1 HL.out.hp).mono ?_
  rintro e w' ⟨rfl, hw⟩
  rw [hw]; clear hw
  go_wp2
  go_ret
  exact ⟨rfl, rfl⟩

theorem name17 (g : Nat) (s : ByteArray) (w : World) (h : w.cell? ⟨g, 0, none⟩ = some (.string s)) :
    Calls Try.prog 17 #[.pointer (some ⟨g, 0, none⟩)] w fun e w' => e = .returned (.string s) ∧ w' = w := by
  go_enter Try.func17, Try.ntmps17
  go_wp2
  go_ret
  exact ⟨rfl, rfl⟩
end Go.Proofs.Qxb6615782a.tal
