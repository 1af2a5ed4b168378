/-
  What is read of a State.
-/
import Derived.Test.Qxb6615059aClone
namespace Go.Proofs.Qxb6615059a
open Go.RowKit Go.Maps
set_option linter.unusedVariables false

set_option maxRecDepth 100000 in
set_option maxHeartbeats 1000000 in
theorem cloneState_nil (g : Nat) (n : Int) (cs : List Value) (hx : cs.length = 32) (w : World) (h : ST w g none n cs) :
    Calls Try.prog 10 #[.pointer (some ⟨g, 0, none⟩)] w fun e w' => e = .returned (.pointer (some ⟨w.heap.size, 0, none⟩)) ∧ w' = (w.alloc (.cells (.map none :: .int .u64 n :: cs).toArray 43)).drew := by
  have c0 := h.c0
  have c1 := h.c1
  have hr := h.c2
  have hlt := h.lt
  have hu := Try.underlying24
  have hi : (Try.prog.info? 24).map (·.size) = some cs.length := by rw [hx]; exact Try.size24
  have hr1 := fun o => World.rangeAt_alloc hr o
  obtain ⟨x0, x1, x2, x3, x4, x5, x6, x7, x8, x9, x10, x11, x12, x13, x14, x15, x16, x17, x18, x19, x20, x21, x22, x23, x24, x25, x26, x27, x28, x29, x30, x31, rfl⟩ := list32 hx
  have hx2 : [x0, x1, x2, x3, x4, x5, x6, x7, x8, x9, x10, x11, x12, x13, x14, x15, x16, x17, x18, x19, x20, x21, x22, x23, x24, x25, x26, x27, x28, x29, x30, x31].length = 32 := rfl
  clear h hx
  go_enter Try.func10, Try.ntmps10
  go_wp2_with fail
  go_region_held3 (fun w' => w'.cell? ⟨g, 0, none⟩ = some (.map none) ∧ w'.cell? ⟨g, 1, none⟩ = some (.int .u64 n) ∧ w'.rangeAt g 2 [x0, x1, x2, x3, x4, x5, x6, x7, x8, x9, x10, x11, x12, x13, x14, x15, x16, x17, x18, x19, x20, x21, x22, x23, x24, x25, x26, x27, x28, x29, x30, x31]) (first | go_keep | go_keep_ranges)
    ((go_at_call 15; refine (clone_nil _).mono ?_; rintro e w1 ⟨rfl, rfl⟩))
  go_wp2
  go_ret
  exact ⟨rfl, rfl⟩

theorem results_cell {fn : Func} {p : Tmp} {ty : TypeId} (h : fn.results = #[.cell p ty]) (tmps : Array Value) (w : World) {a : Addr} {v : Value} (hp : tmps.getD p undef = .pointer (some a)) (hl : (loadVar ty a).run Try.prog w = .ok v w) :
    (results fn tmps).run Try.prog w = .ok v w := by
  have hp' : tmps[p]?.getD undef = .pointer (some a) := by simpa using hp
  simp [results, h, hp', hl, asAddr]

theorem below_setCells {B : Nat} {a w : World} {b : Nat} (h : Below B a w) (hb : B ≤ b) : ∀ (vs : List Value) (o : Nat), Below B a (w.setCells b o vs) := by
  intro vs
  induction vs generalizing w with
  | nil => intro o; exact h
  | cons v vs ih => intro o; exact ih (h.setCell (p := ⟨b, o, none⟩) hb v) (o + 1)

set_option maxHeartbeats 400000 in
theorem data_any (g : Nat) (r : Option Nat) (n : Int) (cs : List Value) (w : World) (h : ST w g r n cs) :
    Calls Try.prog 11 #[.pointer (some ⟨g, 0, none⟩)] w fun e w' => e = .returned (.map r) ∧ w' = w := by
  have c0 := h.c0
  clear h
  go_enter Try.func11, Try.ntmps11
  go_wp2
  go_ret
  exact ⟨rfl, rfl⟩
set_option maxHeartbeats 400000 in
theorem applied_any (g : Nat) (r : Option Nat) (n : Int) (cs : List Value) (w : World) (h : ST w g r n cs) :
    Calls Try.prog 13 #[.pointer (some ⟨g, 0, none⟩)] w fun e w' => e = .returned (.int .u64 n) ∧ w' = w := by
  have c1 := h.c1
  clear h
  go_enter Try.func13, Try.ntmps13
  go_wp2
  go_ret
  exact ⟨rfl, rfl⟩

set_option maxRecDepth 100000 in
set_option maxHeartbeats 400000 in
theorem digest_any (g : Nat) (r : Option Nat) (n : Int) (cs : List Value) (hx : cs.length = 32) (h1 : ∀ v ∈ cs, v.oneCell' = true) (w : World) (h : ST w g r n cs) :
    Calls Try.prog 14 #[.pointer (some ⟨g, 0, none⟩)] w fun e w' => e = .returned (.agg cs.toArray) ∧ Below w.heap.size w w' := by
  have hr := h.c2
  have hlt := h.lt
  have hi : (Try.prog.info? 24).map (·.size) = some cs.length := by rw [hx]; exact Try.size24
  have HI : Hid _ := hi
  have HR : Hid _ := fun o => World.rangeAt_alloc hr o
  have HT : Hid (∀ C : Array Value, C.size = 32 → (w.alloc (.cells C 24)).there w.heap.size 0 cs.toArray.size) := by
    intro C hC j hj
    rw [Nat.zero_add]
    have hj' : j < C.size := by simp at hj; omega
    refine ⟨?_, by simp⟩
    unfold World.cell?
    rw [heap_alloc_new]
    simp [hj']
  have HI2 : Hid ((Try.prog.info? 24).map (·.size) = some cs.toArray.size) := by show _ = _; rw [List.size_toArray]; exact hi
  have HA : Hid (cs.toArray.all (·.oneCell') = true) := all_oneCell_toArray h1
  have HL : Hid (∀ C : Array Value, C.size = 32 → (loadVar 24 ⟨w.heap.size, 0, none⟩).run Try.prog ((w.alloc (.cells C 24)).setCells w.heap.size 0 cs) = .ok (.agg cs.toArray) ((w.alloc (.cells C 24)).setCells w.heap.size 0 cs)) := by
    intro C hC
    exact run_loadVar_mid _ _ _ 24 cs _ (World.rangeAt_setCells_same _ _ _ _ (by have := HT.out C hC; rw [List.size_toArray] at this; exact this)) Try.underlying24 rfl hi
  have HBB : Hid (∀ C : Array Value, Below w.heap.size w ((w.alloc (.cells C 24)).setCells w.heap.size 0 cs)) := fun C => below_setCells ((Below.refl _ _).alloc (Nat.le_refl _) _) (Nat.le_refl _) _ _
  clear h hr hi
  go_enter Try.func14, Try.ntmps14
  go_wp2_with (first | (refine wpList_load_mid rfl 24 (.tmp 5) rfl g 2 rfl cs _ (HR.out _) Try.underlying24 rfl HI.out ?_) | (refine wpList_store_mid rfl 24 (.tmp 2) (.tmp 6) rfl w.heap.size 0 cs.toArray rfl rfl (HT.out _ rfl) HI2.out HA.out ?_))
  refine bodyPost_ret (v := .agg cs.toArray) ?_ rfl ⟨rfl, ?_⟩
  · have hl := HL.out #[.int .u8 0, .int .u8 0, .int .u8 0, .int .u8 0, .int .u8 0, .int .u8 0, .int .u8 0, .int .u8 0, .int .u8 0, .int .u8 0, .int .u8 0, .int .u8 0, .int .u8 0, .int .u8 0, .int .u8 0, .int .u8 0, .int .u8 0, .int .u8 0, .int .u8 0, .int .u8 0, .int .u8 0, .int .u8 0, .int .u8 0, .int .u8 0, .int .u8 0, .int .u8 0, .int .u8 0, .int .u8 0, .int .u8 0, .int .u8 0, .int .u8 0, .int .u8 0] rfl
    exact results_cell Try.results14 _ _ (a := ⟨w.heap.size, 0, none⟩) rfl hl
  · exact HBB.out _

end Go.Proofs.Qxb6615059a
