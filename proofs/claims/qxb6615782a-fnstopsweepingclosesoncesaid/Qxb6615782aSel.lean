/-
  FnStopSweepingClosesOnce: ZZstopClosed (a select with a default).
-/
import Derived.Test.Qxb6615782aRows
import Derived.Conc.LoneCalls
import Derived.Conc.LoneSelectN
import Derived.KernelRfl
import Derived.Laws.Rows
import Derived.WalkKit
namespace Go.Proofs.Qxb6615782a.once
open Go.RowKit Go.Conc
set_option linter.unusedVariables false

theorem zero51 (w : World) : (zeroValue 51).run Try.prog w = .ok (.agg #[]) w := by
  simp [go_sem]

theorem res_r0 (a : Nat) (z v : Value) (ok : Bool) : commResult #[rcase a z] .select ((0 : Nat) : Int) v ok = .tuple #[goInt 0, .bool ok, v] := by
  simp [commResult, rcase, List.zipIdx_cons]

set_option maxRecDepth 100000 in
set_option maxHeartbeats 800000 in
theorem closed_no (b c : Nat) (w : World) (h3 : w.cell? ⟨b, 15, none⟩ = some (.chan (some c))) (hc : w.heap[c]? = some (.chan 0 #[] false 0 0 false)) :
    Calls Try.prog 12 #[.pointer (some ⟨b, 0, none⟩)] w fun e w' => e = .returned (.bool false) ∧ w' = w := by
  refine calls_of_loneTo fun cs => ?_
  have e : Frame.enter Try.prog 12 #[.pointer (some ⟨b, 0, none⟩)] .normal = (base 12).at ⟨#[.pointer (some ⟨b, 0, none⟩), undef, undef, undef, undef, undef, undef, undef, undef, undef], []⟩ [.code (Try.f12.body.getD .skip)] := by
    simp [Frame.enter, Frame.at, Try.func12, base, Try.f12]
  rw [e]
  have hz := zero51
  refine LoneTo.goes (n := 13) ?_
  simp only [Try.f12, Option.getD_some]
  s_c stepG_seq
  s_reg
  s_op
  s_c stepG_region_end
  s_c stepG_seq
  s_reg
  s_op
  s_op
  s_op
  s_op
  s_c stepG_region_end
  s_c stepG_seq
  s_reg
  s_stop
  refine LoneTo.step (step_lone_select_default (c := c) (z := .agg #[]) (cap := 0) (s := 0) (r := 0) (tm := false) (stepG_comm (cases := #[rcase c (.agg #[])]) (blocking := false) (shape := .select) (w' := w) rfl rfl (by decide) (by simp [go_sem, execOp, rcase, Act.eval])) hc) ?_
  rw [Frame.finish_at]
  walk_nrm
  refine LoneTo.goes (n := 10) ?_
  s_op
  s_op
  s_c stepG_region_end
  s_c stepG_block
  s_cond false
  s_c stepG_seq
  s_reg
  s_op
  s_c stepG_region_end
  s_c stepG_ret'
  s_stop
  exact LoneTo.done ⟨.returned (.bool false), _, rfl, ⟨rfl, rfl⟩, rfl, rfl, rfl, rfl, _, Try.func12, by simp [results, Try.f12, Frame.at]⟩

set_option maxRecDepth 100000 in
set_option maxHeartbeats 800000 in
theorem closed_yes (b c : Nat) (w : World) (h3 : w.cell? ⟨b, 15, none⟩ = some (.chan (some c))) (hc : w.heap[c]? = some (.chan 0 #[] true 0 0 false)) :
    Calls Try.prog 12 #[.pointer (some ⟨b, 0, none⟩)] w fun e w' => e = .returned (.bool true) ∧ w' = w := by
  refine calls_of_loneTo fun cs => ?_
  have e : Frame.enter Try.prog 12 #[.pointer (some ⟨b, 0, none⟩)] .normal = (base 12).at ⟨#[.pointer (some ⟨b, 0, none⟩), undef, undef, undef, undef, undef, undef, undef, undef, undef], []⟩ [.code (Try.f12.body.getD .skip)] := by
    simp [Frame.enter, Frame.at, Try.func12, base, Try.f12]
  rw [e]
  have hz := zero51
  refine LoneTo.goes (n := 13) ?_
  simp only [Try.f12, Option.getD_some]
  s_c stepG_seq
  s_reg
  s_op
  s_c stepG_region_end
  s_c stepG_seq
  s_reg
  s_op
  s_op
  s_op
  s_op
  s_c stepG_region_end
  s_c stepG_seq
  s_reg
  s_stop
  refine LoneTo.step (step_lone_sel_recv_shut (k := 0) (c := c) (z := .agg #[]) (cap := 0) (s := 0) (r := 0) (tm := false) (stepG_comm (cases := #[rcase c (.agg #[])]) (blocking := false) (shape := .select) (w' := w) rfl rfl (by decide) (by simp [go_sem, execOp, rcase, Act.eval])) rfl (fun m c' hm hc' => ?_) hc) ?_
  · rcases m with _ | m
    · exact absurd rfl hm
    · simp at hc'
  rw [Frame.finish_at, res_r0]
  walk_nrm
  refine LoneTo.goes (n := 10) ?_
  s_op
  s_op
  s_c stepG_region_end
  s_c stepG_block
  s_cond true
  s_c stepG_seq
  s_reg
  s_op
  s_c stepG_region_end
  s_c stepG_ret'
  s_stop
  exact LoneTo.done ⟨.returned (.bool true), _, rfl, ⟨rfl, rfl⟩, rfl, rfl, rfl, rfl, _, Try.func12, by simp [results, Try.f12, Frame.at]⟩
end Go.Proofs.Qxb6615782a.once
