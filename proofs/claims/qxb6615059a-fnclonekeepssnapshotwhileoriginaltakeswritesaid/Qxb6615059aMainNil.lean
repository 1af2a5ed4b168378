/-
  The walk of the law: the pairs are nil.
-/
import Derived.Test.Qxb6615059aMainSome
namespace Go.Proofs.Qxb6615059a
open Go.RowKit Go.Maps
set_option linter.unusedVariables false

theorem clonePairs_nil (w : World) : Calls Try.prog 6 #[.slice none 0 0] w fun e w' => e = .returned (.slice none 0 0) ∧ w' = w := by
  have hn := fun (w : World) => Lib.run_eql_slice_nil (P := Try.prog) w 22 37 none 0 0 0 0 Try.underlying22
  go_enter Try.func6, Try.ntmps6
  go_wp2
  go_ret
  exact ⟨rfl, rfl⟩
theorem map_nil (w : World) : Calls Try.prog 8 #[.slice none 0 0] w fun e w' => e = .returned (.map none) ∧ w' = w := by
  have hn := fun (w : World) => Lib.run_eql_slice_nil (P := Try.prog) w 22 37 none 0 0 0 0 Try.underlying22
  go_enter Try.func8, Try.ntmps8
  go_wp2
  go_ret
  exact ⟨rfl, rfl⟩
theorem len_nilmap (w : World) : (Builtin.len_ #[30] 3 #[.map none]).run Try.prog w = .ok (.int .i64 0) w := by
  simp [Builtin.len_, run_underlying Try.underlying30, goInt, Result.andThen]

set_option maxRecDepth 100000 in
set_option maxHeartbeats 4000000 in
theorem main_nil (n : Int) (xs : List UInt8) (hx : xs.length = 32) (k2 : ByteArray) (a2 : Option Addr) (l2 c2 : Nat) (z2 : List Int) (w : World)
    (h2 : Ints .u8 w a2 z2) (h2l : z2.length = l2) (h2n : a2 = none → z2 = [] ∧ c2 = 0) (hk : k2.size ≤ maxLen) (hl2 : l2 ≤ maxLen) :
    Calls Try.prog 3 #[.slice none 0 0, .int .u64 n, .agg (xs.map Extern.Stop.cell).toArray, .string k2, .slice a2 l2 c2] w fun e w' => e = .returned (.bool true) ∧ Below w.heap.size w w' := by
  have HE24 : Hid (∀ w, (binOp .eql 24 (.agg (xs.map Extern.Stop.cell).toArray) (.agg (xs.map Extern.Stop.cell).toArray)).run Try.prog w = .ok (.bool true) w) := eql24 xs hx
  have h1c : ∀ v ∈ xs.map Extern.Stop.cell, v.oneCell' = true := fun v hv => by simp at hv; obtain ⟨z, _, rfl⟩ := hv; rfl
  have hcl : (xs.map Extern.Stop.cell).length = 32 := by simpa using hx
  generalize xs.map Extern.Stop.cell = cs at *
  have HI24 : Hid ((Try.prog.info? 24).map (·.size) = some cs.length) := by show _ = _; rw [hcl]; exact Try.size24
  have HC : Hid ((∀ v ∈ cs, v.oneCell' = true) ∧ cs.length = 32) := ⟨h1c, hcl⟩
  have HP : Hid (Ints .u8 w a2 z2 ∧ z2.length = l2 ∧ (a2 = none → z2 = [] ∧ c2 = 0) ∧ k2.size ≤ maxLen ∧ l2 ≤ maxLen) := ⟨h2, h2l, h2n, hk, hl2⟩
  have HPI : Hid (∀ w, PIn w none 0 (fun _ => ⟨#[]⟩) (fun _ => none) (fun _ => []) (fun _ => 0)) := fun w => ⟨.inl rfl, fun j hj => absurd hj (by omega), fun j hj => absurd hj (by omega), fun j hj => absurd hj (by omega)⟩
  have HR0 : Hid ((w.alloc (.cells cs.toArray 24)).rangeAt w.heap.size 0 cs) := range_new w cs 24
  have HB0 : Hid (Below w.heap.size w (w.alloc (.cells cs.toArray 24))) := (Below.refl _ _).alloc (Nat.le_refl _) _
  clear h1c hcl h2 h2l h2n hk hl2 hx
  go_enter Try.func3, Try.ntmps3
  go_wp2_with (refine wpList_load_mid rfl 24 (.tmp 7) rfl w.heap.size 0 rfl cs _ HR0.out Try.underlying24 rfl HI24.out ?_)
  refine (bytes_any none 0 0 (fun _ => ⟨#[]⟩) (fun _ => none) (fun _ => []) (fun _ => 0) n cs.toArray k2 a2 l2 c2 _ (HPI.out _) (by unfold maxLen; omega) HP.out.2.2.2.1 HP.out.2.2.2.2).mono ?_
  rintro e w1 ⟨⟨b, rfl⟩, hB1⟩
  have HB1 : Hid (Below w.heap.size w w1) := chain HB0.out hB1
  have HR1 : Hid (w1.rangeAt w.heap.size 0 cs) := fun j v hv => below_cell hB1 (HR0.out j v hv)
  clear hB1 HR0 HB0
  cases b
  · go_wp2
    go_ret
    exact ⟨rfl, HB1.out⟩
  go_wp2_with fail
  refine (size_any none 0 0 (fun _ => ⟨#[]⟩) (fun _ => none) (fun _ => []) (fun _ => 0) k2 a2 l2 c2 _ (HPI.out _) (by unfold maxLen; omega) HP.out.2.2.2.1 HP.out.2.2.2.2).mono ?_
  rintro e w1' ⟨⟨b, rfl, hsz⟩, hw⟩
  rw [hw]; clear hw
  cases b
  · clear hsz
    go_wp2
    go_ret
    exact ⟨rfl, HB1.out⟩
  have HS : Hid (l2 ≤ 1048576) := (hsz rfl).h2
  clear hsz
  go_wp2_with fail
  refine (clonePairs_nil _).mono ?_
  rintro e w2 ⟨rfl, hw⟩
  rw [hw]; clear hw
  go_wp2_with fail
  refine (cloneBytes_any a2 c2 l2 z2 _ (HP.out.1.below HB1.out) HP.out.2.1 HS.out HP.out.2.2.1).mono ?_
  rintro e w3 ⟨a3, c3, rfl, hI3, hn3, hB3⟩
  have HB3 : Hid (Below w.heap.size w w3) := chain HB1.out hB3
  have HR3 : Hid (w3.rangeAt w.heap.size 0 cs) := fun j v hv => below_cell hB3 (HR1.out j v hv)
  clear hI3 hn3 hB3 HR1 HB1
  go_wp2_with fail
  refine (clonePairs_nil _).mono ?_
  rintro e w4 ⟨rfl, hw⟩
  rw [hw]; clear hw
  go_wp2_with fail
  refine (map_nil _).mono ?_
  rintro e w5 ⟨rfl, hw⟩
  rw [hw]; clear hw
  go_wp2_with fail
  refine (map_nil _).mono ?_
  rintro e w6 ⟨rfl, hw⟩
  rw [hw]; clear hw
  go_wp2_with (refine wpList_load_mid rfl 24 (.tmp 7) rfl w.heap.size 0 rfl cs _ HR3.out Try.underlying24 rfl HI24.out ?_)
  refine (newState_any none n cs HC.out.2 HC.out.1 _).mono ?_
  rintro e w7 ⟨rfl, hw7⟩
  have H7 : Hid (ST w7 (w3.heap.size + 1) none n cs ∧ Below w3.heap.size w3 w7 ∧ w3.heap.size + 1 < w7.heap.size) := by
    have hs : (w3.alloc (.cells cs.toArray 24)).heap.size = w3.heap.size + 1 := by simp
    rw [hw7]
    refine ⟨?_, ((Below.refl _ _).alloc (Nat.le_refl _) _).alloc (by omega) _, by simp⟩
    rw [← hs]
    exact ST.new _ _ _ _
  have H7b : Hid (∃ C, w7.heap[w3.heap.size + 1]? = some (.cells C 43 (0, 0))) := by
    rw [hw7]
    exact ⟨_, push2 w3.heap _ _⟩
  clear hw7
  obtain ⟨g7, hg7⟩ : ∃ g7, w3.heap.size + 1 = g7 := ⟨_, rfl⟩
  have HG7 : Hid (w3.heap.size + 1 = g7) := hg7
  rw [hg7]
  clear hg7
  have HST7 : Hid (ST w7 g7 none n cs) := by have h := H7.out.1; rw [HG7.out] at h; exact h
  go_wp2_with fail
  refine (cloneState_nil g7 n cs HC.out.2 w7 HST7.out).mono ?_
  rintro e w8 ⟨rfl, hw8⟩
  have H8 : Hid (ST w8 w7.heap.size none n cs ∧ Below w7.heap.size w7 w8 ∧ ∃ C, w8.heap[w7.heap.size]? = some (.cells C 43 (0, 0))) := by
    rw [hw8]
    have h := ST.new w7 none n cs
    refine ⟨⟨h.lt, h.c0, h.c1, h.c2⟩, ((Below.refl _ _).alloc (Nat.le_refl _) _).drew, ⟨_, heap_alloc_new _ _⟩⟩
  clear hw8
  obtain ⟨gm, hgm⟩ : ∃ gm, w7.heap.size = gm := ⟨_, rfl⟩
  have HGM : Hid (w7.heap.size = gm) := hgm
  rw [hgm]
  clear hgm
  have HST8 : Hid (ST w8 gm none n cs) := by have h := H8.out.1; rw [HGM.out] at h; exact h
  have HB8 : Hid (Below w.heap.size w w8) := chain (chain HB3.out H7.out.2.1) H8.out.2.1
  have HR8 : Hid (w8.rangeAt w.heap.size 0 cs) := fun j v hv => below_cell (chain H7.out.2.1 H8.out.2.1) (HR3.out j v hv)
  have hpne : (binOp .eql 32 (.pointer (some ⟨gm, 0, none⟩)) (.pointer (some ⟨g7, 0, none⟩))).run Try.prog w8 = .ok (.bool false) w8 := by
    obtain ⟨C1, e1⟩ := H7b.out
    obtain ⟨C2, e2⟩ := H8.out.2.2
    rw [HGM.out] at e2
    rw [HG7.out] at e1
    have hlt : g7 < w7.heap.size := by have h1 := H7.out.2.2; have h2 := HG7.out; omega
    have e3 : w8.heap[g7]? = some (.cells C1 43 (0, 0)) := by rw [H8.out.2.1.block g7 hlt]; exact e1
    obtain ⟨j, hj, hjs⟩ := Option.map_eq_some_iff.1 Try.size43
    exact run_eql_ptr_other w8 (a := ⟨gm, 0, none⟩) (b := ⟨g7, 0, none⟩) Try.underlying32 hj (by omega) (fun e => by injection e with e; have := HGM.out; omega) e2 e3
  have hnm := fun w => run_neq_map_nil (P := Try.prog) w 30 _ _ none Try.underlying30
  go_wp2_with fail
  clear hpne hnm H7 H7b H8 HR3 HB3 HST7
  refine (data_any gm none n cs _ HST8.out).mono ?_
  rintro e w9 ⟨rfl, hw⟩
  rw [hw]; clear hw
  have hq1 := fun w => run_eql_map_nil (P := Try.prog) w 30 _ _ none Try.underlying30
  have hl1 := len_nilmap
  have hnn : (n == n) = true := by simp
  have he24 := HE24.out
  have hu := Try.underlying24
  have hi := HI24.out
  have hcl := HC.out.2
  have hr0 : w8.rangeAt w.heap.size 0 cs := HR8.out
  go_wp2_with fail
  refine wp_loop_rounds 1 ?_
  rw [rounds_succ]
  go_wp2_with fail
  go_region_held3 (fun w' => w'.rangeAt w.heap.size 0 cs) (first | go_keep_ranges | go_keep | assumption)
    ((first | (go_at_call 13; refine (applied_any gm none n cs _ (by exact ⟨HST8.out.lt, HST8.out.c0, HST8.out.c1, HST8.out.c2⟩)).mono ?_; rintro e wx ⟨rfl, rfl⟩) | (go_at_call 14; refine (digest_any gm none n cs HC.out.2 HC.out.1 _ (by exact ⟨HST8.out.lt, HST8.out.c0, HST8.out.c1, HST8.out.c2⟩)).mono ?_; rintro e wx ⟨rfl, hbx⟩; have hrx : wx.rangeAt w.heap.size 0 cs := fun j v hv => below_cell hbx (HR8.out j v hv))))
  go_wp2
  go_ret
  exact ⟨rfl, HB8.out.trans (show Below w.heap.size w8 wx from ⟨hbx.os, hbx.tape, hbx.output, hbx.size, fun k hk => hbx.block k (Nat.lt_of_lt_of_le hk HB8.out.size)⟩)⟩

end Go.Proofs.Qxb6615059a
