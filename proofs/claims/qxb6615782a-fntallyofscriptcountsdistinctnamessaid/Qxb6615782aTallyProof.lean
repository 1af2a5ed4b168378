import Derived.Test.Qxb6615782aRows
import Derived.Test.Qxb6615782aTalE
import Derived.WalkKit
import Derived.ProofKit
import Derived.OpenShut
import Derived.ShutString
import Derived.ChangeOld
import Derived.Below
import Derived.Deep.Strs
namespace Go.Proofs.Qxb6615782a.fnTally
open Go.ChangeShapes Go.WideShapes Go.ChangeAt Go.RowKit
open Go.ChangeMaps (open_string shut_string)
set_option linter.unusedVariables false

theorem own : ownKnob Try.prog.godebug = none := by kernel_rfl
theorem laidOut : laidOutB Try.prog = true := by kernel_rfl
theorem Try.cells9 : Try.prog.cellsOf 9 = 1 := by kernel_rfl

theorem walk (a0 : ByteArray) (a1 : Option Addr) (len1 cap1 : Nat) (N : Nat → ByteArray) (w : World) (w0 : a0.size ≤ maxLen) (w1 : tal.Strs w a1 len1 N) (h1 : len1 ≤ maxLen) :
    Calls Try.prog 6 #[.string a0, .slice a1 len1 cap1] w fun e w' => e = .returned (.bool true) ∧ Below w.heap.size w w' := by
  by_cases t0 : (262144 : Int) < (a0.size : Int)
  · exact tal.tal_early a0 a1 len1 cap1 N w w1 w0 h1 (.inl t0)
  by_cases t1 : (1024 : Int) < (len1 : Int)
  · exact tal.tal_early a0 a1 len1 cap1 N w w1 w0 h1 (.inr ⟨t0, t1⟩)
  exact tal.tal_main a0 a1 len1 cap1 N w w1 (by omega) (by omega)

set_option maxRecDepth 100000 in
theorem lifted (os : Os) (started : os.Started) (H : Type) (enc : TypeId × Value → H) :
    ReturnsInHanded {} Try.checked os 6 .any (Rows.fnTallyOfScriptCountsDistinctNamesSpec.pre6 enc Try.prog Try.f6 Rows.fnTallyOfScriptCountsDistinctNamesRow.domain false) (Rows.fnTallyOfScriptCountsDistinctNamesSpec.post enc Try.prog Try.f6 false true false false) := by
  refine returnsInHanded_of_change (C := Try.checked) own started (by kernel_rfl) Try.func6
    (ChangeSpec.witness6 (enc := enc) (C := Try.checked) false ⟨#[], #[.string ByteArray.empty, .slice none 0 0], []⟩ 8 (by kernel_rfl) (by kernel_rfl) (by kernel_rfl) (by kernel_rfl)) ?_
  intro W base args ds gs before hval0 hW hcnd _
  have hval : ∀ (j : Nat) t v, Try.f6.params[j]? = some t → args[j]? = some v → Value.okWide Try.prog W .any base t v := hval0
  have hW' := hW
  obtain ⟨p, q, hA0, hV, rfl, hfz, hnd⟩ := hW
  have hA : DataW.TrodAll enc Try.prog W 0 (fun _ => true) true Try.f6.params.toList args.toList ds p := hA0
  rw [Try.params6] at hA hval
  obtain ⟨v0, vs0, d0, ds0, p0, q0, hargs, rfl, rfl, h0, r0⟩ := trodAll_cons hA
  obtain ⟨v1, vs1, d1, ds1, p1, q1, rfl, rfl, rfl, h1, r1⟩ := trodAll_cons r0
  obtain ⟨rfl, rfl, rfl⟩ := trodAll_nil r1
  obtain rfl : args = #[v0, v1] := by cases args; simp_all
  obtain ⟨rfl, rfl⟩ := trodVars_none hV
  obtain ⟨a1, len1, cap1, rfl⟩ := okWide_slice Try.underlying33 (hval 1 33 v1 rfl rfl)
  have k1 := h1
  have lt1 : ∀ x ∈ p1, x.block < W.heap.size := by obtain ⟨m, hm⟩ := k1; exact DataW.trod_lt m _ _ _ hm
  obtain ⟨N, w1, hl1⟩ : ∃ N, tal.Strs W a1 len1 N ∧ len1 ≤ maxLen := by
    obtain ⟨fuel, hf⟩ := h1
    rcases Deep.open_strs Try.underlying33 Try.underlying9 Try.cells9 hf with ⟨hcs, _⟩ | ⟨x, l, c, m, Sx, hcs, _, hl, hm, hmm, _, hcell⟩
    · simp [Value.cells] at hcs
      obtain ⟨rfl, rfl, rfl⟩ := hcs
      exact ⟨fun _ => ByteArray.empty, ⟨.inl rfl, fun i hi => absurd hi (by omega)⟩, by unfold maxLen; omega⟩
    · simp [Value.cells] at hcs
      obtain ⟨rfl, rfl, rfl⟩ := hcs
      have hlm : len1 ≤ m := by rw [hmm]; simpa using hl
      refine ⟨Sx, ⟨?_, fun i hi => (hcell i (by omega)).2⟩, by omega⟩
      by_cases h0 : len1 = 0
      · exact .inl h0
      · right
        obtain ⟨b, off, spot⟩ := x
        have h00 := (hcell 0 (by omega)).1
        have hspot : spot = none := by simpa [Addr.add] using World.cell?_spot h00
        subst hspot
        have hlt : b < W.heap.size := by
          rcases Nat.lt_or_ge b W.heap.size with h | h
          · exact h
          · rw [Addr.add_lit] at h00
            have e2 : W.heap[b]? = none := by rw [Array.getElem?_eq_none]; omega
            simp [World.cell?, e2] at h00
        refine ⟨b, off, rfl, hlt, fun i hi => ?_⟩
        have := (hcell i (by omega)).1
        rw [Addr.add_lit] at this
        exact this
  obtain ⟨a0, rfl, rfl, rfl, w0⟩ := open_string Try.underlying9 (hval 0 9 v0 rfl rfl) h0
  clear hA0 hval0
  refine (walk a0 a1 len1 cap1 N W w0 w1 hl1).mono fun e W' ⟨he, bel⟩ => ?_
  subst he
  exact ⟨_, rfl, _, _, _, [], _, [], hW', trodAll_mk1 (shut_bool Try.underlying4 _), (trodAll_cons_mk (shut_string Try.underlying9 w0) (trodAll_cons_mk (Below.trod laidOut (by kernel_rfl) (of_decide_eq_true (by kernel_rfl)) k1 bel lt1) trodAll_mk0)), rfl, bel.frame _, fun h => by cases h⟩

theorem over : Rows.fnTallyOfScriptCountsDistinctNamesRow.holds Try.pinned (OpenSpec.ofChange Rows.fnTallyOfScriptCountsDistinctNamesSpec) :=
  OpenClaim.holds_of_wide 6 Try.f6 rfl rfl rfl rfl rfl rfl rfl ⟨rfl, rfl, rfl, rfl, rfl⟩ rfl rfl rfl rfl rfl (by kernel_rfl) Try.func6 (by kernel_rfl)
    (of_decide_eq_true (by kernel_rfl)) (by unfold Func.isWrapper; first | (rw [if_pos (by decide +kernel)]; kernel_rfl) | (rw [if_neg (by decide +kernel)]; exact ⟨rfl, rfl⟩))
    (fun os started H enc _ => lifted os started H enc)

theorem proved : Rows.FnTallyOfScriptCountsDistinctNamesSaid := over
#print axioms proved
end Go.Proofs.Qxb6615782a.fnTally
