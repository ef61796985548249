import Derived.Test.YbulkcltqRows
import Derived.Conc.LoneSelect
import Derived.Conc.LoneCalls
import Derived.KernelRfl
import Derived.Laws.Rows
import Derived.WalkKit
import Derived.ProofKit
namespace Go.Proofs.Ybulkcltq
open Go.Conc Go.RowKit

set_option maxRecDepth 100000 in
theorem dead_shut (w : World) (b : Nat) (c cap s r : Nat) (tm : Bool) (hc : w.heap[c]? = some (.chan cap #[] true s r tm)) (h3 : w.cell? ⟨b, 3, none⟩ = some (.chan (some c))) :
    Calls Yba.prog 6 #[.pointer (some ⟨b, 0, none⟩)] w fun e w' => e = .returned (.bool true) ∧ w' = w := by
  refine calls_of_loneTo fun cs => ?_
  have e : Frame.enter Yba.prog 6 #[.pointer (some ⟨b, 0, none⟩)] .normal = (base 6).at ⟨#[.pointer (some ⟨b, 0, none⟩), undef, undef, undef, undef, undef, undef, undef, undef, undef], []⟩ [.code (Yba.f6.body.getD .skip)] := by
    simp [Frame.enter, Frame.at, Yba.func6, base, Yba.f6]
  rw [e]
  refine LoneTo.goes (n := 13) ?_
  simp only [Yba.f6, Option.getD_some]
  s_c stepG_seq
  s_reg
  s_op
  s_c stepG_region_end
  s_c stepG_seq
  s_reg
  s_op
  s_op
  s_op
  s_op
  s_c stepG_region_end
  s_c stepG_seq
  s_reg
  s_stop
  refine LoneTo.step (step_lone_select_recv_shut (c := c) (z := .agg #[]) (cap := cap) (s := s) (r := r) (tm := tm) (stepG_comm (cases := #[rcase c (.agg #[])]) (blocking := false) (shape := .select) (w' := w) rfl rfl (by decide) (by simp [go_sem, execOp, rcase, Act.eval])) hc) ?_
  rw [Frame.finish_at]
  walk_nrm
  refine LoneTo.goes (n := 10) ?_
  s_op
  s_op
  s_c stepG_region_end
  s_c stepG_block
  s_cond true
  s_c stepG_seq
  s_reg
  s_op
  s_c stepG_region_end
  s_c stepG_ret'
  s_stop
  exact LoneTo.done ⟨.returned (.bool true), _, rfl, ⟨rfl, rfl⟩, rfl, rfl, rfl, rfl, _, Yba.func6, by simp [results, Yba.f6, Frame.at]⟩

set_option maxRecDepth 100000 in
theorem dead_open (w : World) (b : Nat) (c cap s r : Nat) (tm : Bool) (hc : w.heap[c]? = some (.chan cap #[] false s r tm)) (h3 : w.cell? ⟨b, 3, none⟩ = some (.chan (some c))) :
    Calls Yba.prog 6 #[.pointer (some ⟨b, 0, none⟩)] w fun e w' => e = .returned (.bool false) ∧ w' = w := by
  refine calls_of_loneTo fun cs => ?_
  have e : Frame.enter Yba.prog 6 #[.pointer (some ⟨b, 0, none⟩)] .normal = (base 6).at ⟨#[.pointer (some ⟨b, 0, none⟩), undef, undef, undef, undef, undef, undef, undef, undef, undef], []⟩ [.code (Yba.f6.body.getD .skip)] := by
    simp [Frame.enter, Frame.at, Yba.func6, base, Yba.f6]
  rw [e]
  refine LoneTo.goes (n := 13) ?_
  simp only [Yba.f6, Option.getD_some]
  s_c stepG_seq
  s_reg
  s_op
  s_c stepG_region_end
  s_c stepG_seq
  s_reg
  s_op
  s_op
  s_op
  s_op
  s_c stepG_region_end
  s_c stepG_seq
  s_reg
  s_stop
  refine LoneTo.step (step_lone_select_default (c := c) (z := .agg #[]) (cap := cap) (s := s) (r := r) (tm := tm) (stepG_comm (cases := #[rcase c (.agg #[])]) (blocking := false) (shape := .select) (w' := w) rfl rfl (by decide) (by simp [go_sem, execOp, rcase, Act.eval])) hc) ?_
  rw [Frame.finish_at]
  walk_nrm
  refine LoneTo.goes (n := 10) ?_
  s_op
  s_op
  s_c stepG_region_end
  s_c stepG_block
  s_cond false
  s_c stepG_seq
  s_reg
  s_op
  s_c stepG_region_end
  s_c stepG_ret'
  s_stop
  exact LoneTo.done ⟨.returned (.bool false), _, rfl, ⟨rfl, rfl⟩, rfl, rfl, rfl, rfl, _, Yba.func6, by simp [results, Yba.f6, Frame.at]⟩

set_option maxRecDepth 100000 in
theorem dead_nil (w : World) (b : Nat)  (h3 : w.cell? ⟨b, 3, none⟩ = some (.chan none)) :
    Calls Yba.prog 6 #[.pointer (some ⟨b, 0, none⟩)] w fun e w' => e = .returned (.bool false) ∧ w' = w := by
  refine calls_of_loneTo fun cs => ?_
  have e : Frame.enter Yba.prog 6 #[.pointer (some ⟨b, 0, none⟩)] .normal = (base 6).at ⟨#[.pointer (some ⟨b, 0, none⟩), undef, undef, undef, undef, undef, undef, undef, undef, undef], []⟩ [.code (Yba.f6.body.getD .skip)] := by
    simp [Frame.enter, Frame.at, Yba.func6, base, Yba.f6]
  rw [e]
  refine LoneTo.goes (n := 13) ?_
  simp only [Yba.f6, Option.getD_some]
  s_c stepG_seq
  s_reg
  s_op
  s_c stepG_region_end
  s_c stepG_seq
  s_reg
  s_op
  s_op
  s_op
  s_op
  s_c stepG_region_end
  s_c stepG_seq
  s_reg
  s_stop
  refine LoneTo.step (step_lone_select_recv_nil (z := .agg #[]) (stepG_comm (cases := #[rcaseNil (.agg #[])]) (blocking := false) (shape := .select) (w' := w) rfl rfl (by decide) (by simp [go_sem, execOp, rcaseNil, Act.eval]))) ?_
  rw [Frame.finish_at]
  walk_nrm
  refine LoneTo.goes (n := 10) ?_
  s_op
  s_op
  s_c stepG_region_end
  s_c stepG_block
  s_cond false
  s_c stepG_seq
  s_reg
  s_op
  s_c stepG_region_end
  s_c stepG_ret'
  s_stop
  exact LoneTo.done ⟨.returned (.bool false), _, rfl, ⟨rfl, rfl⟩, rfl, rfl, rfl, rfl, _, Yba.func6, by simp [results, Yba.f6, Frame.at]⟩

set_option maxRecDepth 100000 in
theorem dead_buf (w : World) (b : Nat) (c s r : Nat) (tm : Bool) (hc : w.heap[c]? = some (.chan 1 #[.agg #[]] false s r tm)) (h3 : w.cell? ⟨b, 3, none⟩ = some (.chan (some c))) :
    Calls Yba.prog 6 #[.pointer (some ⟨b, 0, none⟩)] w fun e w' => e = .returned (.bool true) ∧ w' = w.setChan c 1 #[] false s (r + 1) tm := by
  refine calls_of_loneTo fun cs => ?_
  have e : Frame.enter Yba.prog 6 #[.pointer (some ⟨b, 0, none⟩)] .normal = (base 6).at ⟨#[.pointer (some ⟨b, 0, none⟩), undef, undef, undef, undef, undef, undef, undef, undef, undef], []⟩ [.code (Yba.f6.body.getD .skip)] := by
    simp [Frame.enter, Frame.at, Yba.func6, base, Yba.f6]
  rw [e]
  refine LoneTo.goes (n := 13) ?_
  simp only [Yba.f6, Option.getD_some]
  s_c stepG_seq
  s_reg
  s_op
  s_c stepG_region_end
  s_c stepG_seq
  s_reg
  s_op
  s_op
  s_op
  s_op
  s_c stepG_region_end
  s_c stepG_seq
  s_reg
  s_stop
  refine LoneTo.step (step_lone_select_recv_buf (c := c) (z := .agg #[]) (cap := 1) (buf := #[.agg #[]]) (closed := false) (s := s) (r := r) (tm := tm) (stepG_comm (cases := #[rcase c (.agg #[])]) (blocking := false) (shape := .select) (w' := w) rfl rfl (by decide) (by simp [go_sem, execOp, rcase, Act.eval])) hc (by simp)) ?_
  rw [Frame.finish_at]
  walk_nrm
  refine LoneTo.goes (n := 10) ?_
  s_op
  s_op
  s_c stepG_region_end
  s_c stepG_block
  s_cond true
  s_c stepG_seq
  s_reg
  s_op
  s_c stepG_region_end
  s_c stepG_ret'
  s_stop
  exact LoneTo.done ⟨.returned (.bool true), _, rfl, ⟨rfl, rfl⟩, rfl, rfl, rfl, rfl, _, Yba.func6, by simp [results, Yba.f6, Frame.at]⟩

end Go.Proofs.Ybulkcltq
