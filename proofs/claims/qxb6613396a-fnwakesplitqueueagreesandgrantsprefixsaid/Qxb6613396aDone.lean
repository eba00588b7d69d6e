/- ZZdone: a select of one receive with a default -/
import Derived.Test.Qxb6613396aRows
import Derived.Conc.LoneCalls
import Derived.Conc.LoneSelect
import Derived.KernelRfl
import Derived.Laws.Rows
namespace Go.Proofs.Qxb6613396a
open Go.Conc Go.RowKit
set_option linter.unusedVariables false

set_option maxRecDepth 100000 in
theorem done_no (R c : Nat) (w : World) (h4 : w.cell? ⟨R, 4, none⟩ = some (.chan (some c))) (hc : w.heap[c]? = some (.chan 0 #[] false 0 0 false)) :
    Calls Try.prog 31 #[.pointer (some ⟨R, 0, none⟩)] w fun e w' => e = .returned (.bool false) ∧ w' = w := by
  refine calls_of_loneTo fun cs => ?_
  have e : Frame.enter Try.prog 31 #[.pointer (some ⟨R, 0, none⟩)] .normal = (base 31).at ⟨#[.pointer (some ⟨R, 0, none⟩), undef, undef, undef, undef, undef, undef, undef, undef, undef], []⟩ [.code (Try.f31.body.getD .skip)] := by
    simp [Frame.enter, Frame.at, Try.func31, base, Try.f31]
  rw [e]
  refine LoneTo.goes (n := 13) ?_
  simp only [Try.f31, Option.getD_some]
  s_c stepG_seq
  s_reg
  s_op
  s_c stepG_region_end
  s_c stepG_seq
  s_reg
  s_op
  s_op
  s_op
  s_op
  s_c stepG_region_end
  s_c stepG_seq
  s_reg
  s_stop
  refine LoneTo.step (step_lone_select_default (c := c) (z := .agg #[]) (cap := 0) (s := 0) (r := 0) (tm := false) (stepG_comm (cases := #[rcase c (.agg #[])]) (blocking := false) (shape := .select) (w' := w) rfl rfl (by decide) (by simp [go_sem, execOp, rcase, Act.eval])) hc) ?_
  rw [Frame.finish_at]
  walk_nrm
  refine LoneTo.goes (n := 10) ?_
  s_op
  s_op
  s_c stepG_region_end
  s_c stepG_block
  s_cond false
  s_c stepG_seq
  s_reg
  s_op
  s_c stepG_region_end
  s_c stepG_ret'
  s_stop
  exact LoneTo.done ⟨.returned (.bool false), _, rfl, ⟨rfl, rfl⟩, rfl, rfl, rfl, rfl, _, Try.func31, by simp [results, Try.f31, Frame.at]⟩

set_option maxRecDepth 100000 in
theorem done_yes (R c : Nat) (w : World) (h4 : w.cell? ⟨R, 4, none⟩ = some (.chan (some c))) (hc : w.heap[c]? = some (.chan 0 #[] true 0 0 false)) :
    Calls Try.prog 31 #[.pointer (some ⟨R, 0, none⟩)] w fun e w' => e = .returned (.bool true) ∧ w' = w := by
  refine calls_of_loneTo fun cs => ?_
  have e : Frame.enter Try.prog 31 #[.pointer (some ⟨R, 0, none⟩)] .normal = (base 31).at ⟨#[.pointer (some ⟨R, 0, none⟩), undef, undef, undef, undef, undef, undef, undef, undef, undef], []⟩ [.code (Try.f31.body.getD .skip)] := by
    simp [Frame.enter, Frame.at, Try.func31, base, Try.f31]
  rw [e]
  refine LoneTo.goes (n := 13) ?_
  simp only [Try.f31, Option.getD_some]
  s_c stepG_seq
  s_reg
  s_op
  s_c stepG_region_end
  s_c stepG_seq
  s_reg
  s_op
  s_op
  s_op
  s_op
  s_c stepG_region_end
  s_c stepG_seq
  s_reg
  s_stop
  refine LoneTo.step (step_lone_select_recv_shut (c := c) (z := .agg #[]) (cap := 0) (s := 0) (r := 0) (tm := false) (stepG_comm (cases := #[rcase c (.agg #[])]) (blocking := false) (shape := .select) (w' := w) rfl rfl (by decide) (by simp [go_sem, execOp, rcase, Act.eval])) hc) ?_
  rw [Frame.finish_at]
  walk_nrm
  refine LoneTo.goes (n := 10) ?_
  s_op
  s_op
  s_c stepG_region_end
  s_c stepG_block
  s_cond true
  s_c stepG_seq
  s_reg
  s_op
  s_c stepG_region_end
  s_c stepG_ret'
  s_stop
  exact LoneTo.done ⟨.returned (.bool true), _, rfl, ⟨rfl, rfl⟩, rfl, rfl, rfl, rfl, _, Try.func31, by simp [results, Try.f31, Frame.at]⟩

end Go.Proofs.Qxb6613396a
