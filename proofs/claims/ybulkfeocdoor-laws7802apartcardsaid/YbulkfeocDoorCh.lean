import Derived.Test.YbulkfeocDoorAt
import Derived.Conc.LoneCalls
import Derived.Conc.LoneSelect
namespace Go.Proofs.YbulkfeocDoor
open Go.Conc Go.RowKit
set_option linter.unusedVariables false
set_option linter.unusedSimpArgs false

set_option maxRecDepth 100000 in
theorem isClosed_no (c s r : Nat) (w : World) (hc : w.heap[c]? = some (.chan 0 #[] false s r false)) :
    Calls Ybad.prog 8 #[.chan (some c)] w fun e w' => e = .returned (.bool false) ∧ w' = w := by
  refine calls_of_loneTo fun cs => ?_
  have e : Frame.enter Ybad.prog 8 #[.chan (some c)] .normal = (base 8).at ⟨#[.chan (some c), undef, undef, undef, undef, undef, undef], []⟩ [.code (Ybad.f8.body.getD .skip)] := by
    simp [Frame.enter, Frame.at, Ybad.func8, base, Ybad.f8]
  rw [e]
  refine LoneTo.goes (n := 10) ?_
  simp only [Ybad.f8, Option.getD_some]
  s_c stepG_seq
  s_reg
  s_op
  s_c stepG_region_end
  s_c stepG_seq
  s_reg
  s_op
  s_c stepG_region_end
  s_c stepG_seq
  s_reg
  s_stop
  refine LoneTo.step (step_lone_select_default (c := c) (z := .agg #[]) (cap := 0) (s := s) (r := r) (tm := false) (stepG_comm (cases := #[rcase c (.agg #[])]) (blocking := false) (shape := .select) (w' := w) rfl rfl (by decide) (by simp [go_sem, execOp, rcase, Act.eval])) hc) ?_
  rw [Frame.finish_at]
  walk_nrm
  refine LoneTo.goes (n := 10) ?_
  s_op
  s_op
  s_c stepG_region_end
  s_c stepG_block
  s_cond false
  s_c stepG_seq
  s_reg
  s_op
  s_c stepG_region_end
  s_c stepG_ret'
  s_stop
  exact LoneTo.done ⟨.returned (.bool false), _, rfl, ⟨rfl, rfl⟩, rfl, rfl, rfl, rfl, _, Ybad.func8, by simp [results, Ybad.f8, Frame.at]⟩

set_option maxRecDepth 100000 in
theorem isClosed_yes (c s r : Nat) (w : World) (hc : w.heap[c]? = some (.chan 0 #[] true s r false)) :
    Calls Ybad.prog 8 #[.chan (some c)] w fun e w' => e = .returned (.bool true) ∧ w' = w := by
  refine calls_of_loneTo fun cs => ?_
  have e : Frame.enter Ybad.prog 8 #[.chan (some c)] .normal = (base 8).at ⟨#[.chan (some c), undef, undef, undef, undef, undef, undef], []⟩ [.code (Ybad.f8.body.getD .skip)] := by
    simp [Frame.enter, Frame.at, Ybad.func8, base, Ybad.f8]
  rw [e]
  refine LoneTo.goes (n := 10) ?_
  simp only [Ybad.f8, Option.getD_some]
  s_c stepG_seq
  s_reg
  s_op
  s_c stepG_region_end
  s_c stepG_seq
  s_reg
  s_op
  s_c stepG_region_end
  s_c stepG_seq
  s_reg
  s_stop
  refine LoneTo.step (step_lone_select_recv_shut (c := c) (z := .agg #[]) (cap := 0) (s := s) (r := r) (tm := false) (stepG_comm (cases := #[rcase c (.agg #[])]) (blocking := false) (shape := .select) (w' := w) rfl rfl (by decide) (by simp [go_sem, execOp, rcase, Act.eval])) hc) ?_
  rw [Frame.finish_at]
  walk_nrm
  refine LoneTo.goes (n := 10) ?_
  s_op
  s_op
  s_c stepG_region_end
  s_c stepG_block
  s_cond true
  s_c stepG_seq
  s_reg
  s_op
  s_c stepG_region_end
  s_c stepG_ret'
  s_stop
  exact LoneTo.done ⟨.returned (.bool true), _, rfl, ⟨rfl, rfl⟩, rfl, rfl, rfl, rfl, _, Ybad.func8, by simp [results, Ybad.f8, Frame.at]⟩

theorem run_close (c s r : Nat) (w : World) (hc : w.heap[c]? = some (.chan 0 #[] false s r false)) : (Builtin.close_ #[25] 0 #[.chan (some c)]).run Ybad.prog w = .ok (.tuple #[]) (w.setChan c 0 #[] true s r false) := by
  have h := run_close_open (P := Ybad.prog) #[25] 0 hc
  exact h

set_option maxRecDepth 100000 in
theorem closeDrained_open (B c s r : Nat) (w : World) (hd : w.cell? ⟨B, 328, none⟩ = some (.chan (some c))) (hc : w.heap[c]? = some (.chan 0 #[] false s r false)) :
    Calls Ybad.prog 22 #[.pointer (some ⟨B, 0, none⟩)] w fun e w' => e = .returned (.tuple #[]) ∧ w' = w.setChan c 0 #[] true s r false := by
  refine calls_of_loneTo fun cs => ?_
  have hcl := run_close c s r w hc
  have e : Frame.enter Ybad.prog 22 #[.pointer (some ⟨B, 0, none⟩)] .normal = (base 22).at ⟨#[.pointer (some ⟨B, 0, none⟩), undef, undef, undef, undef, undef, undef, undef, undef, undef, undef, undef, undef], []⟩ [.code (Ybad.f22.body.getD .skip)] := by
    simp [Frame.enter, Frame.at, Ybad.func22, base, Ybad.f22]
  rw [e]
  refine LoneTo.goes (n := 9) ?_
  simp only [Ybad.f22, Option.getD_some]
  s_c stepG_seq
  s_reg
  s_op
  s_op
  s_op
  s_op
  s_c stepG_region_end
  s_c stepG_seq
  s_reg
  s_stop
  refine LoneTo.step (step_lone_select_default (c := c) (z := .agg #[]) (cap := 0) (s := s) (r := r) (tm := false) (stepG_comm (cases := #[rcase c (.agg #[])]) (blocking := false) (shape := .select) (w' := w) rfl rfl (by decide) (by simp [go_sem, execOp, rcase, Act.eval])) hc) ?_
  rw [Frame.finish_at]
  walk_nrm
  refine LoneTo.goes (n := 14) ?_
  s_op
  s_op
  s_c stepG_region_end
  s_c stepG_block
  s_cond false
  s_reg
  s_op
  s_op
  s_op
  s_op
  s_op
  s_c stepG_region_end
  s_c stepG_inBlock
  s_c stepG_end
  s_stop
  exact LoneTo.done ⟨.returned (.tuple #[]), _, rfl, ⟨rfl, rfl⟩, rfl, rfl, rfl, rfl, _, Ybad.func22, by simp [results, Ybad.f22, Frame.at]⟩
end Go.Proofs.YbulkfeocDoor
