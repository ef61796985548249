import Derived.Test.YbulkcltqDead
import Derived.OpenShut
import Derived.ShutString
import Derived.ChangeOld
import Derived.Below
import Derived.Outline
import Derived.WalkLawsBesides
import Derived.Conc.EventLaws
import Derived.Conc.SmallLaws
namespace Go.Proofs.Ybulkcltq
open Go.Conc Go.RowKit

theorem bytes32 : ∃ i, Yba.prog.info? 32 = some i ∧ i.bytes = 0 := by
  have h : (Yba.prog.info? 32).map (·.bytes) = some 0 := by kernel_rfl
  obtain ⟨i, hi, hb⟩ := Option.map_eq_some_iff.1 h
  exact ⟨i, hi, hb⟩
theorem mk0 (w : World) : (Instr.makeChan 26 (.int .i64 0)).run Yba.prog w = .ok (.chan (some w.heap.size)) (w.alloc (.chan 0 #[] false 0 0 false)) := by
  obtain ⟨i, hi, hb⟩ := bytes32
  simpa using run_makeChan (P := Yba.prog) (w := w) Yba.underlying26 hi .i64 0 (by omega) (by rw [hb]; omega)

theorem eql_chan (a : Option Nat) (W : World) : (binOp .eql 26 (.chan a) (.chan a)).run Yba.prog W = .ok (.bool true) W := by
  have h : ∀ d : Nat, (Op.equalIn (d + 1) 26 (.chan a) (.chan a)).run Yba.prog W = .ok true W := fun d => by
    simp [Op.equalIn, run_underlying Yba.underlying26]
  simp only [binOp]
  simp [Op.equal, Op.maxDepth, h 9999]

theorem setChan_other (w : World) (c c' cap : Nat) (buf : Array Value) (closed : Bool) (s r : Nat) (tm : Bool) (h : c ≠ c') : (w.setChan c cap buf closed s r tm).heap[c']? = w.heap[c']? := by
  simp [World.setChan, Array.getElem?_setIfInBounds_ne h]

set_option maxHeartbeats 2000000 in
theorem close_law (a0 a1 : Int) (h0 : 0 ≤ a0) (h1 : a0 ≤ 255) (g0 : 0 ≤ a1) (g1 : a1 ≤ 255) (w : World) :
    Calls Yba.prog 4 #[.int .u8 a0, .int .u8 a1] w fun e w' => e = .returned (.bool true) ∧ Below w.heap.size w w' := by
  have hmk := mk0
  have heq := eql_chan
  have hc : ((w.alloc (.chan 0 #[] false 0 0 false)).alloc (.cells #[.nilIface, .nilIface, .pointer none, .chan (some w.heap.size)] 31)).heap[w.heap.size]? = some (.chan 0 #[] false 0 0 false) := by
    rw [Below.heap_alloc _ _ _ (by simp)]; exact heap_alloc_new w _
  have h3 : ((w.alloc (.chan 0 #[] false 0 0 false)).alloc (.cells #[.nilIface, .nilIface, .pointer none, .chan (some w.heap.size)] 31)).cell? ⟨w.heap.size + 1, 3, none⟩ = some (.chan (some w.heap.size)) := by
    have e : w.heap.size + 1 = (w.alloc (.chan 0 #[] false 0 0 false)).heap.size := by simp
    rw [e]; simp
  have hb : Below w.heap.size w ((w.alloc (.chan 0 #[] false 0 0 false)).alloc (.cells #[.nilIface, .nilIface, .pointer none, .chan (some w.heap.size)] 31)) := ((Below.refl _ _).alloc (Nat.le_refl _) _).alloc (by simp) _
  have hN : w.heap.size < ((w.alloc (.chan 0 #[] false 0 0 false)).alloc (.cells #[.nilIface, .nilIface, .pointer none, .chan (some w.heap.size)] 31)).heap.size := by simp; omega
  go_enter Yba.func4, Yba.ntmps4
  go_wp2_with fail
  generalize (w.alloc (.chan 0 #[] false 0 0 false)).alloc (.cells #[.nilIface, .nilIface, .pointer none, .chan (some w.heap.size)] 31) = W at *
  clear hmk
  have hr1 : 0 ≤ a0 % 8 := by omega
  have hr2 : a0 % 8 ≤ 7 := by omega
  have hr3 : 0 ≤ a1 % 8 := by omega
  have hr4 : a1 % 8 ≤ 7 := by omega
  go_loopw [9] (fun si wr => ∃ k : Nat, (k : Int) ≤ a0 % 8 ∧ si = .int .i64 k ∧ wr = W) (fun si _ => (8 - intOf si).toNat)
  case atStart => exact ⟨0, by omega, rfl, rfl⟩
  case round =>
    obtain ⟨k, hk, rfl, rfl⟩ := hrel
    by_cases hlt : (k : Int) < a0 % 8
    · go_wp2_with (go_at_call 6; refine (dead_open _ _ _ _ _ _ _ hc h3).mono ?_; rintro e w' ⟨rfl, rfl⟩)
      go_roundw
      case rel => exact ⟨k + 1, by omega, by go_num, by first | rfl | trivial⟩
      case measure => simp [intOf]; omega
    · have hcl : ∀ (ats : Array TypeId) (ty : TypeId), (Builtin.close_ ats ty #[.chan (some w.heap.size)]).run Yba.prog wr = .ok (.tuple #[]) (wr.setChan w.heap.size 0 #[] true 0 0 false) := fun ats ty => run_close_open (P := Yba.prog) (w := wr) ats ty hc
      have hc5 : (wr.setChan w.heap.size 0 #[] true 0 0 false).heap[w.heap.size]? = some (.chan 0 #[] true 0 0 false) := heap_setChan _ _ _ _ _ _ _ _ hN
      have h35 : (wr.setChan w.heap.size 0 #[] true 0 0 false).cell? ⟨w.heap.size + 1, 3, none⟩ = some (.chan (some w.heap.size)) := by
        rw [World.cell?_of_block (w := wr) (a := ⟨w.heap.size + 1, 3, none⟩) (setChan_other wr w.heap.size (w.heap.size + 1) _ _ _ _ _ _ (by omega))]; exact h3
      have hb5 : Below w.heap.size w (wr.setChan w.heap.size 0 #[] true 0 0 false) := below_setChan hb (Nat.le_refl _) _ _ _ _ _ _
      go_wp2_with fail
      clear hcl hc h3 hb
      generalize wr.setChan w.heap.size 0 #[] true 0 0 false = W5 at *
      go_loopw [10] (fun si wx => ∃ j : Nat, (j : Int) ≤ a1 % 8 + 1 ∧ si = .int .i64 j ∧ wx = W5) (fun si _ => (9 - intOf si).toNat)
      case atStart => exact ⟨0, by omega, rfl, rfl⟩
      case round =>
        obtain ⟨j, hj, rfl, rfl⟩ := hrel
        by_cases hlt2 : (j : Int) < a1 % 8 + 1
        · go_wp2_with (go_at_call 6; refine (dead_shut _ _ _ _ _ _ _ hc5 h35).mono ?_; rintro e w' ⟨rfl, rfl⟩)
          go_roundw
          case rel => exact ⟨j + 1, by omega, by go_num, by first | rfl | trivial⟩
          case measure => simp [intOf]; omega
        · go_wp2_with fail
          go_ret
          exact ⟨rfl, hb5⟩
end Go.Proofs.Ybulkcltq
