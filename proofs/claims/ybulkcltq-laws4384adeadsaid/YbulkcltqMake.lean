import Derived.Test.YbulkcltqClose
namespace Go.Proofs.Ybulkcltq
open Go.Conc Go.RowKit

theorem mk1 (w : World) : (Instr.makeChan 26 (.int .i64 1)).run Yba.prog w = .ok (.chan (some w.heap.size)) (w.alloc (.chan 1 #[] false 0 0 false)) := by
  obtain ⟨i, hi, hb⟩ := bytes32
  simpa using run_makeChan (P := Yba.prog) (w := w) Yba.underlying26 hi .i64 1 (by omega) (by rw [hb]; omega)

set_option maxHeartbeats 2000000 in
theorem make_0 (w : World) : Calls Yba.prog 5 #[.int .u8 0] w fun e w' => ∃ b, e = .returned (.pointer (some ⟨b, 0, none⟩)) ∧ w'.cell? ⟨b, 3, none⟩ = some (.chan none) ∧ Below w.heap.size w w' := by
  go_enter Yba.func5, Yba.ntmps5
  go_wp2_with fail
  go_ret
  exact ⟨_, rfl, by simp, (Below.refl _ _).alloc (Nat.le_refl _) _⟩

set_option maxHeartbeats 2000000 in
theorem make_1 (w : World) : Calls Yba.prog 5 #[.int .u8 1] w fun e w' => ∃ b c, e = .returned (.pointer (some ⟨b, 0, none⟩)) ∧ w'.cell? ⟨b, 3, none⟩ = some (.chan (some c)) ∧ w'.heap[c]? = some (.chan 0 #[] false 0 0 false) ∧ Below w.heap.size w w' := by
  have hmk := mk0
  go_enter Yba.func5, Yba.ntmps5
  go_wp2_with fail
  go_ret
  refine ⟨w.heap.size, w.heap.size + 1, rfl, ?_, ?_, ((Below.refl _ _).alloc (Nat.le_refl _) _).alloc (by simp) _⟩
  · rw [World.cell?_of_block (w := w.alloc _) (a := ⟨w.heap.size, 3, none⟩) (Below.heap_alloc _ _ _ (by simp))]; simp
  · have e : w.heap.size + 1 = (w.alloc (.cells #[.nilIface, .nilIface, .pointer none, .chan (some (w.heap.size + 1))] 31)).heap.size := by simp
    conv => lhs; arg 2; rw [e]
    exact heap_alloc_new _ _

set_option maxHeartbeats 2000000 in
theorem make_2 (w : World) : Calls Yba.prog 5 #[.int .u8 2] w fun e w' => ∃ b c, e = .returned (.pointer (some ⟨b, 0, none⟩)) ∧ w'.cell? ⟨b, 3, none⟩ = some (.chan (some c)) ∧ w'.heap[c]? = some (.chan 0 #[] true 0 0 false) ∧ Below w.heap.size w w' := by
  have hmk := mk0
  have hc : ((w.alloc (.cells #[.nilIface, .nilIface, .pointer none, .chan none] 31)).alloc (.chan 0 #[] false 0 0 false)).heap[w.heap.size + 1]? = some (.chan 0 #[] false 0 0 false) := by
    have e : w.heap.size + 1 = (w.alloc (.cells #[.nilIface, .nilIface, .pointer none, .chan none] 31)).heap.size := by simp
    rw [e]; exact heap_alloc_new _ _
  have hcl : ∀ (ats : Array TypeId) (ty : TypeId), (Builtin.close_ ats ty #[.chan (some (w.heap.size + 1))]).run Yba.prog ((w.alloc (.cells #[.nilIface, .nilIface, .pointer none, .chan none] 31)).alloc (.chan 0 #[] false 0 0 false)) = .ok (.tuple #[]) (((w.alloc (.cells #[.nilIface, .nilIface, .pointer none, .chan none] 31)).alloc (.chan 0 #[] false 0 0 false)).setChan (w.heap.size + 1) 0 #[] true 0 0 false) := fun ats ty => run_close_open (P := Yba.prog) ats ty hc
  have hc2 : (((w.alloc (.cells #[.nilIface, .nilIface, .pointer none, .chan none] 31)).alloc (.chan 0 #[] false 0 0 false)).setChan (w.heap.size + 1) 0 #[] true 0 0 false).heap[w.heap.size + 1]? = some (.chan 0 #[] true 0 0 false) := heap_setChan _ _ _ _ _ _ _ _ (by simp)
  have h3 : (((w.alloc (.cells #[.nilIface, .nilIface, .pointer none, .chan none] 31)).alloc (.chan 0 #[] false 0 0 false)).setChan (w.heap.size + 1) 0 #[] true 0 0 false).cell? ⟨w.heap.size, 3, none⟩ = some (.chan none) := by
    rw [World.cell?_of_block (w := (w.alloc (.cells #[.nilIface, .nilIface, .pointer none, .chan none] 31)).alloc (.chan 0 #[] false 0 0 false)) (a := ⟨w.heap.size, 3, none⟩) (setChan_other _ _ _ _ _ _ _ _ _ (by simp))]
    rw [World.cell?_of_block (w := w.alloc _) (a := ⟨w.heap.size, 3, none⟩) (Below.heap_alloc _ _ _ (by simp))]; simp
  have hfz : (((w.alloc (.cells #[.nilIface, .nilIface, .pointer none, .chan none] 31)).alloc (.chan 0 #[] false 0 0 false)).setChan (w.heap.size + 1) 0 #[] true 0 0 false).frozen? ⟨w.heap.size, 3, none⟩ = false := by
    rw [World.frozen?_of_block (w := ((w.alloc (.cells #[.nilIface, .nilIface, .pointer none, .chan none] 31)).alloc (.chan 0 #[] false 0 0 false))) (a := ⟨w.heap.size, 3, none⟩) (setChan_other _ _ _ _ _ _ _ _ _ (by simp))]
    rw [World.frozen?_of_block (w := w.alloc _) (a := ⟨w.heap.size, 3, none⟩) (Below.heap_alloc _ _ _ (by simp))]; simp
  have hb : Below w.heap.size w (((w.alloc (.cells #[.nilIface, .nilIface, .pointer none, .chan none] 31)).alloc (.chan 0 #[] false 0 0 false)).setChan (w.heap.size + 1) 0 #[] true 0 0 false) := below_setChan (((Below.refl _ _).alloc (Nat.le_refl _) _).alloc (by simp) _) (by simp) _ _ _ _ _ _
  go_enter Yba.func5, Yba.ntmps5
  go_wp2_with fail
  go_ret
  clear hcl hmk hc
  generalize ((w.alloc (.cells #[.nilIface, .nilIface, .pointer none, .chan none] 31)).alloc (.chan 0 #[] false 0 0 false)).setChan (w.heap.size + 1) 0 #[] true 0 0 false = W at *
  refine ⟨w.heap.size, w.heap.size + 1, rfl, ?_, ?_, ?_⟩
  · exact World.cell?_setCell_same' _ _ _ (by rw [h3]; rfl)
  · rw [Below.heap_setCell _ _ _ _ (by simp)]; exact hc2
  · exact hb.setCell (by simp) _

set_option maxHeartbeats 2000000 in
set_option maxRecDepth 100000 in
theorem make_3 (w : World) : Calls Yba.prog 5 #[.int .u8 3] w fun e w' => ∃ b c, e = .returned (.pointer (some ⟨b, 0, none⟩)) ∧ w'.cell? ⟨b, 3, none⟩ = some (.chan (some c)) ∧ w'.heap[c]? = some (.chan 1 #[.agg #[]] false 1 0 false) ∧ b < c ∧ w.heap.size ≤ c ∧ c < w'.heap.size ∧ Below w.heap.size w w' := by
  refine calls_of_loneTo fun cs => ?_
  have e : Frame.enter Yba.prog 5 #[.int .u8 3] .normal = (base 5).at ⟨#[.int .u8 3, undef, undef, undef, undef, undef, undef, undef, undef, undef, undef, undef, undef, undef, undef, undef, undef, undef, undef, undef, undef, undef, undef, undef, undef, undef, undef, undef, undef, undef, undef, undef, undef, undef], []⟩ [.code (Yba.f5.body.getD .skip)] := by
    simp [Frame.enter, Frame.at, Yba.func5, base, Yba.f5]
  rw [e]
  have hmc := mk1
  have hc : ((w.alloc (.cells #[.nilIface, .nilIface, .pointer none, .chan none] 31)).alloc (.chan 1 #[] false 0 0 false)).heap[w.heap.size + 1]? = some (.chan 1 #[] false 0 0 false) := by
    have e : w.heap.size + 1 = (w.alloc (.cells #[.nilIface, .nilIface, .pointer none, .chan none] 31)).heap.size := by simp
    rw [e]; exact heap_alloc_new _ _
  have hc2 : (((w.alloc (.cells #[.nilIface, .nilIface, .pointer none, .chan none] 31)).alloc (.chan 1 #[] false 0 0 false)).setChan (w.heap.size + 1) 1 #[.agg #[]] false 1 0 false).heap[w.heap.size + 1]? = some (.chan 1 #[.agg #[]] false 1 0 false) := heap_setChan _ _ _ _ _ _ _ _ (by simp)
  have h3 : (((w.alloc (.cells #[.nilIface, .nilIface, .pointer none, .chan none] 31)).alloc (.chan 1 #[] false 0 0 false)).setChan (w.heap.size + 1) 1 #[.agg #[]] false 1 0 false).cell? ⟨w.heap.size, 3, none⟩ = some (.chan none) := by
    rw [World.cell?_of_block (w := (w.alloc (.cells #[.nilIface, .nilIface, .pointer none, .chan none] 31)).alloc (.chan 1 #[] false 0 0 false)) (a := ⟨w.heap.size, 3, none⟩) (setChan_other _ _ _ _ _ _ _ _ _ (by simp))]
    rw [World.cell?_of_block (w := w.alloc _) (a := ⟨w.heap.size, 3, none⟩) (Below.heap_alloc _ _ _ (by simp))]; simp
  have hfz : (((w.alloc (.cells #[.nilIface, .nilIface, .pointer none, .chan none] 31)).alloc (.chan 1 #[] false 0 0 false)).setChan (w.heap.size + 1) 1 #[.agg #[]] false 1 0 false).frozen? ⟨w.heap.size, 3, none⟩ = false := by
    rw [World.frozen?_of_block (w := ((w.alloc (.cells #[.nilIface, .nilIface, .pointer none, .chan none] 31)).alloc (.chan 1 #[] false 0 0 false))) (a := ⟨w.heap.size, 3, none⟩) (setChan_other _ _ _ _ _ _ _ _ _ (by simp))]
    rw [World.frozen?_of_block (w := w.alloc _) (a := ⟨w.heap.size, 3, none⟩) (Below.heap_alloc _ _ _ (by simp))]; simp
  have hb : Below w.heap.size w (((w.alloc (.cells #[.nilIface, .nilIface, .pointer none, .chan none] 31)).alloc (.chan 1 #[] false 0 0 false)).setChan (w.heap.size + 1) 1 #[.agg #[]] false 1 0 false) := below_setChan (((Below.refl _ _).alloc (Nat.le_refl _) _).alloc (by simp) _) (by simp) _ _ _ _ _ _
  have hs : w.heap.size + 1 < (((w.alloc (.cells #[.nilIface, .nilIface, .pointer none, .chan none] 31)).alloc (.chan 1 #[] false 0 0 false)).setChan (w.heap.size + 1) 1 #[.agg #[]] false 1 0 false).heap.size := by simp [World.setChan]
  refine LoneTo.goes (n := 44) ?_
  simp only [Yba.f5, Option.getD_some]
  s_c stepG_seq
  s_reg
  s_op
  s_c stepG_region_end
  s_c stepG_seq
  s_reg
  s_op
  s_op
  s_op
  s_c stepG_region_end
  s_c stepG_seq
  s_c stepG_seq
  s_reg
  s_op
  s_op
  s_c stepG_region_end
  s_c stepG_block
  s_c stepG_seq
  s_reg
  s_op
  s_op
  s_c stepG_region_end
  s_cond false
  s_c stepG_seq
  s_reg
  s_op
  s_op
  s_c stepG_region_end
  s_cond false
  s_c stepG_seq
  s_reg
  s_op
  s_op
  s_c stepG_region_end
  s_cond true
  s_c stepG_seq
  s_reg
  s_op
  s_op
  s_c stepG_region_end
  s_c stepG_seq
  s_reg
  s_op
  s_op
  s_stop
  refine LoneTo.step (step_lone_send_room (c := w.heap.size + 1) (cap := 1) (buf := #[]) (s := 0) (r := 0) (tm := false) (stepG_comm (cases := #[scase (w.heap.size + 1) (.agg #[]) (.tuple #[])]) (blocking := true) (shape := .send) (w' := ((w.alloc (.cells #[.nilIface, .nilIface, .pointer none, .chan none] 31)).alloc (.chan 1 #[] false 0 0 false))) rfl rfl (by decide) (by simp [execOp, scase, Act.eval])) hc (by simp)) ?_
  rw [Frame.finish_at]
  walk_nrm
  generalize ((w.alloc (.cells #[.nilIface, .nilIface, .pointer none, .chan none] 31)).alloc (.chan 1 #[] false 0 0 false)).setChan (w.heap.size + 1) 1 #[.agg #[]] false 1 0 false = W at *
  refine LoneTo.goes (n := 15) ?_
  s_c stepG_region_end
  s_reg
  s_op
  s_op
  s_op
  s_op
  s_op
  s_c stepG_region_end
  s_c stepG_inBlock
  s_c stepG_seq
  s_reg
  s_op
  s_op
  s_c stepG_region_end
  s_c stepG_ret'
  s_stop
  refine LoneTo.done ⟨.returned (.pointer (some ⟨w.heap.size, 0, none⟩)), _, rfl, ⟨w.heap.size, w.heap.size + 1, rfl, ?_, ?_, by omega, by omega, ?_, ?_⟩, rfl, rfl, rfl, rfl, _, Yba.func5, by simp [results, Yba.f5, Frame.at]⟩
  · exact World.cell?_setCell_same' _ _ _ (by rw [h3]; rfl)
  · rw [Below.heap_setCell _ _ _ _ (by simp)]; exact hc2
  · simpa using hs
  · exact hb.setCell (by simp) _
end Go.Proofs.Ybulkcltq
