/-
  maps.Clone at map[string][]byte; State's functions.
-/
import Derived.Test.Qxb6615059aMapWalk
import Derived.Laws.Externs
import Derived.MapKept
namespace Go.Proofs.Qxb6615059a
open Go.RowKit Go.Maps
set_option linter.unusedVariables false

theorem run_clone {r : Nat} {es : Array MapEntry} {clock : Nat} (w : World) (hb : w.heap[r]? = some (.map es clock)) :
    (Extern.MapsClone.clone #[.iface 30 (.map (some r))]).run Try.prog w = .ok (.iface 30 (.map (some w.heap.size))) (w.alloc (.map es clock)) := by
  obtain ⟨msg, e⟩ : ∃ msg, Extern.MapsClone.clone #[.iface 30 (.map (some r))] = (getObj r >>= fun o => match o with
      | .map entries clock => (newObj (.map entries clock) >>= fun n => pure (Value.iface 30 (.map (some n))))
      | _ => stuck msg) := ⟨_, rfl⟩
  rw [e]
  simp [MapKept.run_getObj_map hb, Result.andThen, go_sem]
theorem run_assert (v : Value) (w : World) : (Instr.typeAssert (.iface 30 v) 20 30 false).run Try.prog w = .ok v w := by
  simp [Instr.typeAssert, run_underlying Try.underlying30, go_sem, Result.andThen]

set_option maxHeartbeats 1000000 in
theorem clone_some (b : Nat) (es : Array MapEntry) (clock : Nat) (w : World) (hb : w.heap[b]? = some (.map es clock)) :
    Calls Try.prog 15 #[.map (some b)] w fun e w' => e = .returned (.map (some w.heap.size)) ∧ w' = w.alloc (.map es clock) := by
  have hq := fun w => run_eql_map_nil (P := Try.prog) w 30 _ _ (some b) Try.underlying30
  go_enter Try.func15, Try.ntmps15
  go_wp2
  rw [run_callFunc_extern Try.func16 (by kernel_rfl) (by kernel_rfl) (by kernel_rfl) (e := Extern.MapsClone.clone) (by kernel_rfl), run_clone w hb]
  simp only [Result.andThen]
  rw [Oper.upon_value]
  go_wp2
  rw [run_assert]
  simp only [Result.andThen]
  rw [Oper.upon_value]
  go_wp2
  go_ret
  exact ⟨rfl, rfl⟩
set_option maxHeartbeats 1000000 in
theorem clone_nil (w : World) : Calls Try.prog 15 #[.map none] w fun e w' => e = .returned (.map none) ∧ w' = w := by
  have hq := fun w => run_eql_map_nil (P := Try.prog) w 30 _ _ none Try.underlying30
  go_enter Try.func15, Try.ntmps15
  go_wp2
  go_ret
  exact ⟨rfl, rfl⟩

theorem Try.size24 : (Try.prog.info? 24).map (·.size) = some 32 := by kernel_rfl

theorem range_new (w : World) (cs : List Value) (t : TypeId) : (w.alloc (.cells cs.toArray t)).rangeAt w.heap.size 0 cs := by
  intro j v hv
  rw [Nat.zero_add]
  unfold World.cell?
  rw [heap_alloc_new]
  simpa using hv

/-- a state in block g -/
structure ST (w : World) (g : Nat) (r : Option Nat) (n : Int) (cs : List Value) : Prop where
  lt : g < w.heap.size
  c0 : w.cell? ⟨g, 0, none⟩ = some (.map r)
  c1 : w.cell? ⟨g, 1, none⟩ = some (.int .u64 n)
  c2 : w.rangeAt g 2 cs
theorem ST.below {w w' : World} {g : Nat} {r : Option Nat} {n : Int} {cs : List Value} (h : ST w g r n cs) (hb : Below w.heap.size w w') : ST w' g r n cs :=
  ⟨Nat.lt_of_lt_of_le h.lt hb.size, below_cell hb h.c0, below_cell hb h.c1, fun j v hv => below_cell hb (h.c2 j v hv)⟩
theorem ST.new (w : World) (r : Option Nat) (n : Int) (cs : List Value) : ST (w.alloc (.cells (.map r :: .int .u64 n :: cs).toArray 43)) w.heap.size r n cs := by
  refine ⟨by simp, by simp, by simp, fun j v hv => ?_⟩
  unfold World.cell?
  rw [heap_alloc_new]
  rw [Nat.add_comm]
  simpa using hv
theorem list32 {cs : List Value} (h : cs.length = 32) : ∃ x0 x1 x2 x3 x4 x5 x6 x7 x8 x9 x10 x11 x12 x13 x14 x15 x16 x17 x18 x19 x20 x21 x22 x23 x24 x25 x26 x27 x28 x29 x30 x31, cs = [x0, x1, x2, x3, x4, x5, x6, x7, x8, x9, x10, x11, x12, x13, x14, x15, x16, x17, x18, x19, x20, x21, x22, x23, x24, x25, x26, x27, x28, x29, x30, x31] := by
  match cs, h with
  | [x0, x1, x2, x3, x4, x5, x6, x7, x8, x9, x10, x11, x12, x13, x14, x15, x16, x17, x18, x19, x20, x21, x22, x23, x24, x25, x26, x27, x28, x29, x30, x31], _ => exact ⟨_, _, _, _, _, _, _, _, _, _, _, _, _, _, _, _, _, _, _, _, _, _, _, _, _, _, _, _, _, _, _, _, rfl⟩

set_option maxRecDepth 100000 in
set_option maxHeartbeats 400000 in
theorem newState_any (r : Option Nat) (n : Int) (cs : List Value) (hx : cs.length = 32) (h1 : ∀ v ∈ cs, v.oneCell' = true) (w : World) :
    Calls Try.prog 9 #[.map r, .int .u64 n, .agg cs.toArray] w fun e w' => e = .returned (.pointer (some ⟨w.heap.size + 1, 0, none⟩)) ∧ w' = (w.alloc (.cells cs.toArray 24)).alloc (.cells (.map r :: .int .u64 n :: cs).toArray 43) := by
  have hr := range_new w cs 24
  have hi : (Try.prog.info? 24).map (·.size) = some cs.length := by rw [hx]; exact Try.size24
  have HR : Hid _ := hr
  have HI : Hid _ := hi
  obtain ⟨x0, x1, x2, x3, x4, x5, x6, x7, x8, x9, x10, x11, x12, x13, x14, x15, x16, x17, x18, x19, x20, x21, x22, x23, x24, x25, x26, x27, x28, x29, x30, x31, rfl⟩ := list32 hx
  clear hr hi hx h1
  go_enter Try.func9, Try.ntmps9
  go_wp2_with (refine wpList_load_mid rfl 24 (.tmp 5) rfl w.heap.size 0 rfl [x0, x1, x2, x3, x4, x5, x6, x7, x8, x9, x10, x11, x12, x13, x14, x15, x16, x17, x18, x19, x20, x21, x22, x23, x24, x25, x26, x27, x28, x29, x30, x31] _ HR.out Try.underlying24 rfl HI.out ?_)
  go_ret
  exact ⟨rfl, rfl⟩

set_option maxRecDepth 100000 in
set_option maxHeartbeats 1000000 in
theorem cloneState_some (g b : Nat) (n : Int) (cs : List Value) (es : Array MapEntry) (clock : Nat) (hx : cs.length = 32) (h1 : ∀ v ∈ cs, v.oneCell' = true) (w : World) (h : ST w g (some b) n cs) (hb : w.heap[b]? = some (.map es clock)) :
    Calls Try.prog 10 #[.pointer (some ⟨g, 0, none⟩)] w fun e w' => e = .returned (.pointer (some ⟨w.heap.size + 1, 0, none⟩)) ∧ w' = ((w.alloc (.map es clock)).alloc (.cells (.map (some w.heap.size) :: .int .u64 n :: cs).toArray 43)).drew := by
  have c0 := h.c0
  have c1 := h.c1
  have hr := h.c2
  have hlt := h.lt
  have hu := Try.underlying24
  have hi : (Try.prog.info? 24).map (·.size) = some cs.length := by rw [hx]; exact Try.size24
  have hr1 := fun o => World.rangeAt_alloc hr o
  have hr2 := fun o o' => World.rangeAt_alloc (World.rangeAt_alloc hr o) o'
  obtain ⟨x0, x1, x2, x3, x4, x5, x6, x7, x8, x9, x10, x11, x12, x13, x14, x15, x16, x17, x18, x19, x20, x21, x22, x23, x24, x25, x26, x27, x28, x29, x30, x31, rfl⟩ := list32 hx
  have hx2 : [x0, x1, x2, x3, x4, x5, x6, x7, x8, x9, x10, x11, x12, x13, x14, x15, x16, x17, x18, x19, x20, x21, x22, x23, x24, x25, x26, x27, x28, x29, x30, x31].length = 32 := rfl
  clear h hx
  go_enter Try.func10, Try.ntmps10
  go_wp2_with fail
  go_region_held3 (fun w' => w'.cell? ⟨g, 0, none⟩ = some (.map (some b)) ∧ w'.cell? ⟨g, 1, none⟩ = some (.int .u64 n) ∧ w'.rangeAt g 2 [x0, x1, x2, x3, x4, x5, x6, x7, x8, x9, x10, x11, x12, x13, x14, x15, x16, x17, x18, x19, x20, x21, x22, x23, x24, x25, x26, x27, x28, x29, x30, x31]) (first | go_keep | go_keep_ranges)
    ((go_at_call 15; refine (clone_some b es clock _ (by exact hb)).mono ?_; rintro e w1 ⟨rfl, rfl⟩))
  go_wp2
  go_ret
  exact ⟨rfl, rfl⟩

end Go.Proofs.Qxb6615059a
