/-
  The walk of the law: the pairs are not nil.
-/
import Derived.Test.Qxb6615059aFin
import Derived.LaidEqlPtr
namespace Go.Proofs.Qxb6615059a
open Go.RowKit Go.Maps
set_option linter.unusedVariables false

theorem push2 (h : Array Obj) (a b : Obj) : ((h.push a).push b)[h.size + 1]? = some b := by
  rw [Array.getElem?_push, if_pos (by simp)]
theorem Try.size43 : (Try.prog.info? 43).map (·.size) = some 34 := by kernel_rfl

theorem cloneBytes_any (a : Option Addr) (c l : Nat) (zs : List Int) (w : World) (h : Ints .u8 w a zs) (hl : zs.length = l) (hm : l ≤ 1048576) (hn : a = none → zs = [] ∧ c = 0) :
    Calls Try.prog 7 #[.slice a l c] w fun e w' => ∃ a' c', e = .returned (.slice a' l c') ∧ Ints .u8 w' a' zs ∧ (a' = none → zs = []) ∧ Below w.heap.size w w' := by
  cases a with
  | none =>
    obtain ⟨rfl, rfl⟩ := hn rfl
    subst hl
    exact (cloneBytes_nil w).mono fun e w' ⟨he, hw⟩ => ⟨none, 0, he, .inl rfl, fun _ => rfl, by rw [hw]; exact Below.refl _ _⟩
  | some ad =>
    subst hl
    exact (cloneBytes_some ad c zs w h hm).mono fun e w' ⟨he, hw⟩ => ⟨some ⟨w.heap.size, 0, none⟩, zs.length, he, by rw [hw]; exact ints_new _ _, (fun h => by cases h), by rw [hw]; exact (Below.refl _ _).alloc (Nat.le_refl _) _⟩

set_option maxRecDepth 100000 in
set_option maxHeartbeats 4000000 in
theorem main_some (ad : Addr) (m c : Nat) (ks : Nat → ByteArray) (va : Nat → Option Addr) (zs : Nat → List Int) (vc : Nat → Nat) (n : Int) (xs : List UInt8) (hx : xs.length = 32) (k2 : ByteArray) (a2 : Option Addr) (l2 c2 : Nat) (z2 : List Int) (w : World)
    (hP : PIn w (some ad) m ks va zs vc) (h2 : Ints .u8 w a2 z2) (h2l : z2.length = l2) (h2n : a2 = none → z2 = [] ∧ c2 = 0) (hm : m ≤ maxLen) (hk : k2.size ≤ maxLen) (hl2 : l2 ≤ maxLen) :
    Calls Try.prog 3 #[.slice (some ad) m c, .int .u64 n, .agg (xs.map Extern.Stop.cell).toArray, .string k2, .slice a2 l2 c2] w fun e w' => e = .returned (.bool true) ∧ Below w.heap.size w w' := by
  have HE24 : Hid (∀ w, (binOp .eql 24 (.agg (xs.map Extern.Stop.cell).toArray) (.agg (xs.map Extern.Stop.cell).toArray)).run Try.prog w = .ok (.bool true) w) := eql24 xs hx
  have h1c : ∀ v ∈ xs.map Extern.Stop.cell, v.oneCell' = true := fun v hv => by simp at hv; obtain ⟨z, _, rfl⟩ := hv; rfl
  have hcl : (xs.map Extern.Stop.cell).length = 32 := by simpa using hx
  generalize xs.map Extern.Stop.cell = cs at *
  have HI24 : Hid ((Try.prog.info? 24).map (·.size) = some cs.length) := by show _ = _; rw [hcl]; exact Try.size24
  have HC : Hid ((∀ v ∈ cs, v.oneCell' = true) ∧ cs.length = 32) := ⟨h1c, hcl⟩
  have HP : Hid (PIn w (some ad) m ks va zs vc ∧ Ints .u8 w a2 z2 ∧ z2.length = l2 ∧ (a2 = none → z2 = [] ∧ c2 = 0) ∧ m ≤ maxLen ∧ k2.size ≤ maxLen ∧ l2 ≤ maxLen) := ⟨hP, h2, h2l, h2n, hm, hk, hl2⟩
  have HR0 : Hid ((w.alloc (.cells cs.toArray 24)).rangeAt w.heap.size 0 cs) := range_new w cs 24
  have HB0 : Hid (Below w.heap.size w (w.alloc (.cells cs.toArray 24))) := (Below.refl _ _).alloc (Nat.le_refl _) _
  clear h1c hcl hP h2 h2l h2n hm hk hl2 hx
  obtain ⟨g0, hg0⟩ : ∃ g0, w.heap.size = g0 := ⟨_, rfl⟩
  have HG0 : Hid (w.heap.size = g0) := hg0
  go_enter Try.func3, Try.ntmps3
  clear hg0
  go_wp2_with (refine wpList_load_mid rfl 24 (.tmp 7) rfl w.heap.size 0 rfl cs _ HR0.out Try.underlying24 rfl HI24.out ?_)
  refine (bytes_any (some ad) m c ks va zs vc n cs.toArray k2 a2 l2 c2 _ (HP.out.1.below HB0.out) HP.out.2.2.2.2.1 HP.out.2.2.2.2.2.1 HP.out.2.2.2.2.2.2).mono ?_
  rintro e w1 ⟨⟨b, rfl⟩, hB1⟩
  have HB1 : Hid (Below w.heap.size w w1) := chain HB0.out hB1
  have HR1 : Hid (w1.rangeAt w.heap.size 0 cs) := fun j v hv => below_cell hB1 (HR0.out j v hv)
  clear hB1 HR0 HB0
  cases b
  · go_wp2
    go_ret
    exact ⟨rfl, HB1.out⟩
  go_wp2_with fail
  refine (size_any (some ad) m c ks va zs vc k2 a2 l2 c2 _ (HP.out.1.below HB1.out) HP.out.2.2.2.2.1 HP.out.2.2.2.2.2.1 HP.out.2.2.2.2.2.2).mono ?_
  rintro e w1' ⟨⟨b, rfl, hsz⟩, hw⟩
  rw [hw]; clear hw
  cases b
  · clear hsz
    go_wp2
    go_ret
    exact ⟨rfl, HB1.out⟩
  have HS : Hid (SZ m zs l2) := hsz rfl
  clear hsz
  go_wp2_with fail
  refine (clonePairs_some ad m c ks va zs vc _ (HP.out.1.below HB1.out) HS.out.hm HS.out.hz).mono ?_
  rintro e w2 ⟨rfl, va', vc', hP2, hn2, hB2⟩
  have HP2 : Hid (PIn w2 (some ⟨w1.heap.size, 0, none⟩) m ks va' zs vc' ∧ Below w1.heap.size w1 w2) := ⟨hP2, hB2⟩
  clear hP2 hn2 hB2
  obtain ⟨g1, hg1⟩ : ∃ g1, w1.heap.size = g1 := ⟨_, rfl⟩
  have HG1 : Hid (w1.heap.size = g1) := hg1
  rw [hg1]
  clear hg1
  go_wp2_with fail
  refine (cloneBytes_any a2 c2 l2 z2 _ (HP.out.2.1.below (chain HB1.out HP2.out.2)) HP.out.2.2.1 HS.out.h2 HP.out.2.2.2.1).mono ?_
  rintro e w3 ⟨a3, c3, rfl, hI3, hn3, hB3⟩
  have H3 : Hid (Ints .u8 w3 a3 z2 ∧ (a3 = none → z2 = []) ∧ Below w2.heap.size w2 w3) := ⟨hI3, hn3, hB3⟩
  clear hI3 hn3 hB3
  have HP3 : Hid (PIn w3 (some ⟨g1, 0, none⟩) m ks va' zs vc') := by have := HP2.out.1.below H3.out.2.2; rw [HG1.out] at this; exact this
  go_wp2_with fail
  refine (clonePairs_some ⟨g1, 0, none⟩ m m ks va' zs vc' _ HP3.out HS.out.hm HS.out.hz).mono ?_
  rintro e w4 ⟨rfl, va'', vc'', hP4, hn4, hB4⟩
  have HP4 : Hid (PIn w4 (some ⟨w3.heap.size, 0, none⟩) m ks va'' zs vc'' ∧ (∀ j, j < m → (va'' j = none ↔ va' j = none)) ∧ Below w3.heap.size w3 w4) := ⟨hP4, hn4, hB4⟩
  clear hP4 hn4 hB4
  obtain ⟨g3, hg3⟩ : ∃ g3, w3.heap.size = g3 := ⟨_, rfl⟩
  have HG3 : Hid (w3.heap.size = g3) := hg3
  rw [hg3]
  clear hg3
  have HPW : Hid (PIn w4 (some ⟨g3, 0, none⟩) m ks va'' zs vc'') := by have := HP4.out.1; rw [HG3.out] at this; exact this
  have HPD : Hid (PIn w4 (some ⟨g1, 0, none⟩) m ks va' zs vc') := HP3.out.below HP4.out.2.2
  have HGW : Hid (∀ j, j < m → RR w4 (.slice (va'' j) (zs j).length (vc'' j)) = some (contZ (va' j) (zs j), [])) := fun j hj => by
    rw [RR_of (HPW.out.v j hj).1 (fun h => ((HPW.out.v j hj).2 h).1) (HS.out.hz j hj)]
    have e : contZ (va'' j) (zs j) = contZ (va' j) (zs j) := by
      unfold contZ
      by_cases h : va' j = none
      · rw [if_pos h, if_pos ((HP4.out.2.1 j hj).2 h)]
      · rw [if_neg h, if_neg (fun h' => h ((HP4.out.2.1 j hj).1 h'))]
    rw [e]
  have HGD : Hid (∀ j, j < m → RR w4 (.slice (va' j) (zs j).length (vc' j)) = some (contZ (va' j) (zs j), [])) := fun j hj => RR_of (HPD.out.v j hj).1 (fun h => ((HPD.out.v j hj).2 h).1) (HS.out.hz j hj)
  have HG2 : Hid (RR w4 (.slice a3 l2 c3) = some (contZ a3 z2, [])) := by
    have h := RR_of (c := c3) (H3.out.1.below HP4.out.2.2) H3.out.2.1 (by rw [HP.out.2.2.1]; exact HS.out.h2)
    rw [HP.out.2.2.1] at h
    exact h
  have HB4 : Hid (Below w.heap.size w w4) := chain (chain (chain HB1.out HP2.out.2) H3.out.2.2) HP4.out.2.2
  have HR4 : Hid (w4.rangeAt w.heap.size 0 cs) := fun j v hv => below_cell (chain (chain HP2.out.2 H3.out.2.2) HP4.out.2.2) (HR1.out j v hv)
  clear HP4 HP3 H3 HP2 HR1 HB1
  go_wp2_with fail
  refine (map_some ⟨g3, 0, none⟩ m m ks va'' zs vc'' w4 w4 (fun j => contZ (va' j) (zs j)) HPW.out HS.out.hm HGW.out).mono ?_
  rintro e w5 ⟨rfl, hO5, hB5⟩
  have H5 : Hid (w5.ownsMap Try.prog 9 (RR w4) w4.heap.size m (DD ks (fun j => contZ (va' j) (zs j)) m) ∧ Below w4.heap.size w4 w5) := ⟨hO5, hB5⟩
  clear hO5 hB5
  obtain ⟨gw, hgw⟩ : ∃ gw, w4.heap.size = gw := ⟨_, rfl⟩
  have HGWn : Hid (w4.heap.size = gw) := hgw
  rw [hgw]
  clear hgw
  go_wp2_with fail
  refine (map_some ⟨g1, 0, none⟩ m m ks va' zs vc' w5 w4 (fun j => contZ (va' j) (zs j)) (HPD.out.below H5.out.2) HS.out.hm HGD.out).mono ?_
  rintro e w6 ⟨rfl, hO6, hB6⟩
  have H6 : Hid (w6.ownsMap Try.prog 9 (RR w4) w5.heap.size m (DD ks (fun j => contZ (va' j) (zs j)) m) ∧ Below w5.heap.size w5 w6) := ⟨hO6, hB6⟩
  clear hO6 hB6
  obtain ⟨gd, hgd⟩ : ∃ gd, w5.heap.size = gd := ⟨_, rfl⟩
  have HGDn : Hid (w5.heap.size = gd) := hgd
  rw [hgd]
  clear hgd
  have HB46 : Hid (Below w4.heap.size w4 w6) := chain H5.out.2 H6.out.2
  have HR6 : Hid (w6.rangeAt w.heap.size 0 cs) := fun j v hv => below_cell HB46.out (HR4.out j v hv)
  go_wp2_with (refine wpList_load_mid rfl 24 (.tmp 7) rfl w.heap.size 0 rfl cs _ HR6.out Try.underlying24 rfl HI24.out ?_)
  refine (newState_any (some gd) n cs HC.out.2 HC.out.1 _).mono ?_
  rintro e w7 ⟨rfl, hw7⟩
  have H7 : Hid (ST w7 (w6.heap.size + 1) (some gd) n cs ∧ Below w6.heap.size w6 w7 ∧ w6.heap.size + 1 < w7.heap.size) := by
    have hs : (w6.alloc (.cells cs.toArray 24)).heap.size = w6.heap.size + 1 := by simp
    rw [hw7]
    refine ⟨?_, ((Below.refl _ _).alloc (Nat.le_refl _) _).alloc (by omega) _, by simp⟩
    rw [← hs]
    exact ST.new _ _ _ _
  have H7b : Hid (∃ C, w7.heap[w6.heap.size + 1]? = some (.cells C 43 (0, 0))) := by
    rw [hw7]
    refine ⟨(.map (some gd) :: .int .u64 n :: cs).toArray, ?_⟩
    exact push2 w6.heap _ _
  clear hw7
  obtain ⟨g7, hg7⟩ : ∃ g7, w6.heap.size + 1 = g7 := ⟨_, rfl⟩
  have HG7 : Hid (w6.heap.size + 1 = g7) := hg7
  rw [hg7]
  clear hg7
  obtain ⟨es, clock, hes⟩ : ∃ (es : Array MapEntry) (clock : Nat), w7.heap[gd]? = some (.map es clock) ∧ ∀ w' : World, w'.heap[w7.heap.size]? = some (.map es clock) → w'.ownsMap Try.prog 9 (RR w4) w7.heap.size m (DD ks (fun j => contZ (va' j) (zs j)) m) := by
    have h := own_below H6.out.1 H7.out.2.1
    rw [HGDn.out] at h
    obtain ⟨es, clock, he, r⟩ := h
    exact ⟨es, clock, he, fun w' hw' => ⟨es, clock, hw', r⟩⟩
  have HES : Hid _ := hes
  clear hes
  have HCS : Hid (Calls Try.prog 10 #[.pointer (some ⟨g7, 0, none⟩)] w7 fun e w' => e = .returned (.pointer (some ⟨w7.heap.size + 1, 0, none⟩)) ∧ w' = ((w7.alloc (.map es clock)).alloc (.cells (.map (some w7.heap.size) :: .int .u64 n :: cs).toArray 43)).drew) := by
    have h7 := H7.out.1
    rw [HG7.out] at h7
    exact cloneState_some g7 gd n cs es clock HC.out.2 HC.out.1 w7 h7 HES.out.1
  go_wp2_with fail
  refine Calls.mono (show Calls Try.prog 10 #[.pointer (some ⟨g7, 0, none⟩)] w7 (fun e w' => e = .returned (.pointer (some ⟨w7.heap.size + 1, 0, none⟩)) ∧ w' = ((w7.alloc (.map es clock)).alloc (.cells (.map (some w7.heap.size) :: .int .u64 n :: cs).toArray 43)).drew) from HCS.out) ?_
  clear HCS
  rintro e w8 ⟨rfl, hw8⟩
  have H8 : Hid (ST w8 (w7.heap.size + 1) (some w7.heap.size) n cs ∧ Below w7.heap.size w7 w8 ∧ w8.ownsMap Try.prog 9 (RR w4) w7.heap.size m (DD ks (fun j => contZ (va' j) (zs j)) m)) := by
    have hs : (w7.alloc (.map es clock)).heap.size = w7.heap.size + 1 := by simp
    have hB : Below w7.heap.size w7 ((w7.alloc (.map es clock)).alloc (.cells (.map (some w7.heap.size) :: .int .u64 n :: cs).toArray 43)).drew := (((Below.refl _ _).alloc (Nat.le_refl _) _).alloc (by omega) _).drew
    rw [hw8]
    refine ⟨?_, hB, HES.out.2 _ ?_⟩
    · rw [← hs]
      have h := ST.new (w7.alloc (.map es clock)) (some w7.heap.size) n cs
      exact ⟨h.lt, h.c0, h.c1, h.c2⟩
    · show ((w7.heap.push _).push _)[w7.heap.size]? = _
      simp only [Array.getElem?_push, Array.size_push]
      rw [if_neg (by omega), if_pos trivial]
  have H8b : Hid (∃ C, w8.heap[w7.heap.size + 1]? = some (.cells C 43 (0, 0))) := by
    rw [hw8]
    refine ⟨(.map (some w7.heap.size) :: .int .u64 n :: cs).toArray, ?_⟩
    exact push2 w7.heap _ _
  clear hw8 HES
  obtain ⟨gm, hgm⟩ : ∃ gm, w7.heap.size = gm := ⟨_, rfl⟩
  have HGM : Hid (w7.heap.size = gm) := hgm
  rw [hgm]
  have hcs : gm + 1 ≠ g7 := by have h1 := H7.out.2.2; have h2 := HG7.out; omega
  have hcs' : g7 ≠ gm + 1 := Ne.symm hcs
  clear hgm
  have hpne : (binOp .eql 32 (.pointer (some ⟨gm + 1, 0, none⟩)) (.pointer (some ⟨g7, 0, none⟩))).run Try.prog w8 = .ok (.bool false) w8 := by
    obtain ⟨C1, e1⟩ := H7b.out
    obtain ⟨C2, e2⟩ := H8b.out
    rw [HGM.out] at e2
    rw [HG7.out] at e1
    have e3 : w8.heap[g7]? = some (.cells C1 43 (0, 0)) := by rw [H8.out.2.1.block g7 (by have h1 := H7.out.2.2; have h2 := HG7.out; omega)]; exact e1
    obtain ⟨j, hj, hjs⟩ := Option.map_eq_some_iff.1 Try.size43
    exact run_eql_ptr_other w8 (a := ⟨gm + 1, 0, none⟩) (b := ⟨g7, 0, none⟩) Try.underlying32 hj (by omega) (fun e => hcs (by injection e)) e2 e3
  clear H7b H8b
  -- the write
  have HOD : Hid (w8.ownsMap Try.prog 9 (RR w4) gd m (DD ks (fun j => contZ (va' j) (zs j)) m)) := by
    have h := own_below (own_below H6.out.1 H7.out.2.1) H8.out.2.1
    rw [HGDn.out] at h
    exact h
  have HOW : Hid (w8.ownsMap Try.prog 9 (RR w4) gw m (DD ks (fun j => contZ (va' j) (zs j)) m)) := by
    have h := own_below (own_below (own_below H5.out.1 H6.out.2) H7.out.2.1) H8.out.2.1
    rw [HGWn.out] at h
    exact h
  obtain ⟨w9, hup, _, hgrow⟩ := HOD.out.update law Try.underlying30 (by have := HS.out.hm; unfold maxLen; omega) (key_of HP.out.2.2.2.2.2.1) HG2.out
  have HF : Hid (Fin w w4 w9 w.heap.size (gm + 1) gm gw g3 m n cs ks va'' zs vc'' (DD ks (fun j => contZ (va' j) (zs j)) m)) := by
    have s4 := HB4.out.size
    have s46 := HB46.out.size
    have s6 := H6.out.2.size
    have s7 := H7.out.2.1.size
    have s5 := H5.out.2.size
    have hgd := HGDn.out
    have hgw := HGWn.out
    have hgm := HGM.out
    have hwlt := own_lt H5.out.1
    have hdlt := own_lt H6.out.1
    have b48 : Below w4.heap.size w4 w8 := chain (chain HB46.out H7.out.2.1) H8.out.2.1
    have b89 : Below gd w8 w9 := (Below.refl gd w8).grown hgrow (by have := H8.out.2.1.size; omega) (fun k hk => by injection hk with hk; omega)
    have b49 : Below w4.heap.size w4 w9 := b48.trans (b89.mono (by omega))
    have keep : ∀ b o v, w8.cell? ⟨b, o, none⟩ = some v → b ≠ gd → w9.cell? ⟨b, o, none⟩ = some v := fun b o v hc hne => by
      rw [← hc]
      exact World.cell?_of_block (w := w8) (hgrow.block b (cell_lt hc) (fun e => hne (by injection e)))
    have h8 := H8.out.1
    rw [hgm] at h8
    refine ⟨HB4.out.trans (b49.mono s4), fun j v hv => below_cell b49 (HR4.out j v hv), ⟨Nat.lt_of_lt_of_le h8.lt hgrow.size, keep _ _ _ h8.c0 (by omega), keep _ _ _ h8.c1 (by omega), fun j v hv => keep _ _ _ (h8.c2 j v hv) (by omega)⟩, ?_, ?_, b49, HPW.out.below b49, fun j hj => has_DD ks _ m j hj⟩
    · have h := H8.out.2.2
      rw [hgm] at h
      exact own_grown h hgrow (by omega)
    · exact own_grown HOW.out hgrow (by omega)
  clear hgrow
  have hnm := fun w => run_neq_map_nil (P := Try.prog) w 30 _ _ (some gd) Try.underlying30
  go_wp2_with fail
  clear hup hnm hpne hcs hcs' HOD HOW H8 H7 H6 H5 HPD HGW HGD HG2 HR6 HR4 HB4 HB46 HPW
  generalize hD : DD ks (fun j => contZ (va' j) (zs j)) m = D at *
  clear hD
  refine (data_any (gm + 1) (some gm) n cs _ HF.out.st).mono ?_
  rintro e w9' ⟨rfl, hw⟩
  rw [hw]; clear hw
  have hq1 := fun w => run_eql_map_nil (P := Try.prog) w 30 _ _ (some gm) Try.underlying30
  have hq2 := fun w => run_eql_map_nil (P := Try.prog) w 30 _ _ (some gw) Try.underlying30
  have hl1 := HF.out.cm.len Try.underlying30 3
  have hl2 := HF.out.wt.len Try.underlying30 3
  generalize Maps.size D = sd at *
  have hsd : ((sd : Int) != (sd : Int)) = false := by simp
  have hm4 : m ≤ 65536 := HS.out.hm
  go_wp2_with fail
  clear hq1 hq2 hl1 hl2
  go_loopw [17] (fun i wr => ∃ k : Nat, k ≤ m ∧ i = .int .i64 k ∧ ∃ q, wr = w9.drewN q) (fun i _ => m - (intOf i).toNat)
  case atStart => exact ⟨0, Nat.zero_le _, rfl, 0, rfl⟩
  case round =>
    obtain ⟨k, hk, rfl, q, hq⟩ := hrel
    have HQ : Hid (wr = w9.drewN q) := hq
    have HFr : Hid (Fin w w4 wr w.heap.size (gm + 1) gm gw g3 m n cs ks va'' zs vc'' D) := by rw [hq]; exact HF.out.below (below_drewN _ _)
    clear hq
    by_cases hlt : k < m
    · obtain ⟨b1, a1', c1', c2', z, r1, r2, i1, i2, hn12, hzl⟩ := HFr.out.look hlt
      have HI12 : Hid (Ints .u8 wr b1 z ∧ Ints .u8 wr a1' z ∧ b1.isNone = a1'.isNone) := ⟨i1.below HFr.out.b4, i2.below HFr.out.b4, hn12⟩
      have hck : wr.cell? ⟨g3, k * 2, none⟩ = some (.string (ks k)) := by
        obtain ⟨b, off, e, hc⟩ := HFr.out.pw.at (by omega)
        injection e with e
        injection e with e1 e2
        subst e1 e2
        have := (hc k hlt).1
        rw [Nat.zero_add] at this
        exact this
      clear i1 i2 hn12
      generalize ks k = key at *
      obtain ⟨zl, hzl'⟩ : ∃ zl, z.length = zl := ⟨_, rfl⟩
      have HZL : Hid (z.length = zl) := hzl'
      rw [hzl'] at r1 r2 hzl
      clear hzl'
      go_wp2_with fail
      refine (same_any b1 a1' c1' c2' zl z _ HI12.out.1 HI12.out.2.1 HI12.out.2.2 HZL.out hzl).mono ?_
      rintro e wj ⟨rfl, q2, hq2⟩
      have HQ2 : Hid (wj = wr.drewN q2) := hq2
      clear hq2 r1 r2
      go_wp2
      go_roundw
      case rel => exact ⟨k + 1, by omega, by go_num, drewN_add HQ.out HQ2.out⟩
      case measure => simp [intOf]; omega
    · have hnn : (n == n) = true := by simp
      have he24 := HE24.out
      have hu := Try.underlying24
      have hi := HI24.out
      have hcl := HC.out.2
      have hr0 : wr.rangeAt w.heap.size 0 cs := HFr.out.box
      go_wp2_with fail
      go_region_held3 (fun w' => w'.rangeAt w.heap.size 0 cs) (first | go_keep_ranges | go_keep | assumption)
        ((first | (go_at_call 13; refine (applied_any (gm + 1) (some gm) n cs _ (by exact ⟨HFr.out.st.lt, HFr.out.st.c0, HFr.out.st.c1, HFr.out.st.c2⟩)).mono ?_; rintro e wx ⟨rfl, rfl⟩) | (go_at_call 14; refine (digest_any (gm + 1) (some gm) n cs HC.out.2 HC.out.1 _ (by exact ⟨HFr.out.st.lt, HFr.out.st.c0, HFr.out.st.c1, HFr.out.st.c2⟩)).mono ?_; rintro e wx ⟨rfl, hbx⟩; have hrx : wx.rangeAt w.heap.size 0 cs := fun j v hv => below_cell hbx (HFr.out.box j v hv))))
      go_wp2
      go_ret
      exact ⟨rfl, HFr.out.bel.trans (show Below w.heap.size wr wx from ⟨hbx.os, hbx.tape, hbx.output, hbx.size, fun k hk => hbx.block k (Nat.lt_of_lt_of_le hk HFr.out.bel.size)⟩)⟩

end Go.Proofs.Qxb6615059a
