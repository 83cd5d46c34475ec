/-
  'ZZturnGiven': a select of one receive case with a default: true exactly where the turn's channel is closed.
-/
import Derived.Test.Qxb6612990aRows
import Derived.Conc.LoneCalls
import Derived.Conc.LoneSelect
import Derived.KernelRfl
import Derived.Laws.Rows
import Derived.Laws.Pointers
namespace Go.Proofs.Qxb6612990a
open Go.Conc Go.RowKit

set_option maxRecDepth 100000 in
theorem turn_shut (t c s r : Nat) (cap : Nat) (w : World) (h1 : w.cell? ⟨t, 1, none⟩ = some (.chan (some c))) (hc : w.heap[c]? = some (.chan cap #[] true s r false)) :
    Calls Try.prog 14 #[.pointer (some ⟨t, 0, none⟩)] w fun e w' => e = .returned (.bool true) ∧ w' = w := by
  refine calls_of_loneTo fun cs => ?_
  have e : Frame.enter Try.prog 14 #[.pointer (some ⟨t, 0, none⟩)] .normal = (base 14).at ⟨#[.pointer (some ⟨t, 0, none⟩), undef, undef, undef, undef, undef, undef, undef, undef, undef], []⟩ [.code (Try.f14.body.getD .skip)] := by
    simp [Frame.enter, Frame.at, Try.func14, base, Try.f14]
  rw [e]
  refine LoneTo.goes (n := 13) ?_
  simp only [Try.f14, Option.getD_some]
  s_c stepG_seq
  s_reg
  s_op
  s_c stepG_region_end
  s_c stepG_seq
  s_reg
  s_op
  s_op
  s_op
  s_op
  s_c stepG_region_end
  s_c stepG_seq
  s_reg
  s_stop
  refine LoneTo.step (step_lone_select_recv_shut (c := c) (z := .agg #[]) (cap := cap) (s := s) (r := r) (tm := false)
    (stepG_comm (cases := #[rcase c (.agg #[])]) (blocking := false) (shape := .select) (w' := w) rfl rfl (by decide) (by simp [go_sem, execOp, rcase, Act.eval]))
    hc) ?_
  rw [Frame.finish_at]
  walk_nrm
  refine LoneTo.goes (n := 10) ?_
  s_op
  s_op
  s_c stepG_region_end
  s_c stepG_block
  s_cond true
  s_c stepG_seq
  s_reg
  s_op
  s_c stepG_region_end
  s_c stepG_ret'
  s_stop
  exact LoneTo.done ⟨.returned (.bool true), _, rfl, ⟨rfl, rfl⟩, rfl, rfl, rfl, rfl, _, Try.func14, by simp [results, Try.f14, Frame.at]⟩

set_option maxRecDepth 100000 in
theorem turn_open (t c s r : Nat) (cap : Nat) (w : World) (h1 : w.cell? ⟨t, 1, none⟩ = some (.chan (some c))) (hc : w.heap[c]? = some (.chan cap #[] false s r false)) :
    Calls Try.prog 14 #[.pointer (some ⟨t, 0, none⟩)] w fun e w' => e = .returned (.bool false) ∧ w' = w := by
  refine calls_of_loneTo fun cs => ?_
  have e : Frame.enter Try.prog 14 #[.pointer (some ⟨t, 0, none⟩)] .normal = (base 14).at ⟨#[.pointer (some ⟨t, 0, none⟩), undef, undef, undef, undef, undef, undef, undef, undef, undef], []⟩ [.code (Try.f14.body.getD .skip)] := by
    simp [Frame.enter, Frame.at, Try.func14, base, Try.f14]
  rw [e]
  refine LoneTo.goes (n := 13) ?_
  simp only [Try.f14, Option.getD_some]
  s_c stepG_seq
  s_reg
  s_op
  s_c stepG_region_end
  s_c stepG_seq
  s_reg
  s_op
  s_op
  s_op
  s_op
  s_c stepG_region_end
  s_c stepG_seq
  s_reg
  s_stop
  refine LoneTo.step (step_lone_select_default (c := c) (z := .agg #[]) (cap := cap) (s := s) (r := r) (tm := false)
    (stepG_comm (cases := #[rcase c (.agg #[])]) (blocking := false) (shape := .select) (w' := w) rfl rfl (by decide) (by simp [go_sem, execOp, rcase, Act.eval]))
    hc) ?_
  rw [Frame.finish_at]
  walk_nrm
  refine LoneTo.goes (n := 10) ?_
  s_op
  s_op
  s_c stepG_region_end
  s_c stepG_block
  s_cond false
  s_c stepG_seq
  s_reg
  s_op
  s_c stepG_region_end
  s_c stepG_ret'
  s_stop
  exact LoneTo.done ⟨.returned (.bool false), _, rfl, ⟨rfl, rfl⟩, rfl, rfl, rfl, rfl, _, Try.func14, by simp [results, Try.f14, Frame.at]⟩
end Go.Proofs.Qxb6612990a
