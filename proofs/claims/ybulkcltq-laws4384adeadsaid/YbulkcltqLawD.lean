import Derived.Test.YbulkcltqMake
namespace Go.Proofs.Ybulkcltq
open Go.Conc Go.RowKit

set_option maxHeartbeats 2000000 in
theorem dead_law_0 (a0 a1 : Int) (hm : a0 % 4 = 0) (h0 : 0 ≤ a0) (h1 : a0 ≤ 255) (g0 : 0 ≤ a1) (g1 : a1 ≤ 255) (w : World) :
    Calls Yba.prog 3 #[.int .u8 a0, .int .u8 a1] w fun e w' => e = .returned (.bool true) ∧ Below w.heap.size w w' := by
  have hr3 : 0 ≤ a1 % 8 := by omega
  have hr4 : a1 % 8 ≤ 7 := by omega
  go_enter Yba.func3, Yba.ntmps3
  go_wp2_with (go_at_call 5; refine (make_0 _).mono ?_; rintro e w' ⟨b, rfl, h3, hb⟩)
  go_loopw [8] (fun si wr => ∃ j : Nat, (j : Int) ≤ a1 % 8 + 1 ∧ si = .int .i64 j ∧ wr = w') (fun si _ => (9 - intOf si).toNat)
  case atStart => exact ⟨0, by omega, rfl, rfl⟩
  case round =>
    obtain ⟨j, hj, rfl, rfl⟩ := hrel
    by_cases hlt2 : (j : Int) < a1 % 8 + 1
    · go_wp2_with (go_at_call 6; refine (dead_nil _ _ h3).mono ?_; rintro e w' ⟨rfl, rfl⟩)
      go_roundw
      case rel => exact ⟨j + 1, by omega, by go_num, by first | rfl | trivial⟩
      case measure => simp [intOf]; omega
    · go_wp2_with fail
      go_ret
      exact ⟨rfl, hb⟩

set_option maxHeartbeats 2000000 in
theorem dead_law_1 (a0 a1 : Int) (hm : a0 % 4 = 1) (h0 : 0 ≤ a0) (h1 : a0 ≤ 255) (g0 : 0 ≤ a1) (g1 : a1 ≤ 255) (w : World) :
    Calls Yba.prog 3 #[.int .u8 a0, .int .u8 a1] w fun e w' => e = .returned (.bool true) ∧ Below w.heap.size w w' := by
  have hr3 : 0 ≤ a1 % 8 := by omega
  have hr4 : a1 % 8 ≤ 7 := by omega
  go_enter Yba.func3, Yba.ntmps3
  go_wp2_with (go_at_call 5; refine (make_1 _).mono ?_; rintro e w' ⟨b, c, rfl, h3, hc, hb⟩)
  go_loopw [8] (fun si wr => ∃ j : Nat, (j : Int) ≤ a1 % 8 + 1 ∧ si = .int .i64 j ∧ wr = w') (fun si _ => (9 - intOf si).toNat)
  case atStart => exact ⟨0, by omega, rfl, rfl⟩
  case round =>
    obtain ⟨j, hj, rfl, rfl⟩ := hrel
    by_cases hlt2 : (j : Int) < a1 % 8 + 1
    · go_wp2_with (go_at_call 6; refine (dead_open _ _ _ _ _ _ _ hc h3).mono ?_; rintro e w' ⟨rfl, rfl⟩)
      go_roundw
      case rel => exact ⟨j + 1, by omega, by go_num, by first | rfl | trivial⟩
      case measure => simp [intOf]; omega
    · go_wp2_with fail
      go_ret
      exact ⟨rfl, hb⟩

set_option maxHeartbeats 2000000 in
theorem dead_law_2 (a0 a1 : Int) (hm : a0 % 4 = 2) (h0 : 0 ≤ a0) (h1 : a0 ≤ 255) (g0 : 0 ≤ a1) (g1 : a1 ≤ 255) (w : World) :
    Calls Yba.prog 3 #[.int .u8 a0, .int .u8 a1] w fun e w' => e = .returned (.bool true) ∧ Below w.heap.size w w' := by
  have hr3 : 0 ≤ a1 % 8 := by omega
  have hr4 : a1 % 8 ≤ 7 := by omega
  go_enter Yba.func3, Yba.ntmps3
  go_wp2_with (go_at_call 5; refine (make_2 _).mono ?_; rintro e w' ⟨b, c, rfl, h3, hc, hb⟩)
  go_loopw [8] (fun si wr => ∃ j : Nat, (j : Int) ≤ a1 % 8 + 1 ∧ si = .int .i64 j ∧ wr = w') (fun si _ => (9 - intOf si).toNat)
  case atStart => exact ⟨0, by omega, rfl, rfl⟩
  case round =>
    obtain ⟨j, hj, rfl, rfl⟩ := hrel
    by_cases hlt2 : (j : Int) < a1 % 8 + 1
    · go_wp2_with (go_at_call 6; refine (dead_shut _ _ _ _ _ _ _ hc h3).mono ?_; rintro e w' ⟨rfl, rfl⟩)
      go_roundw
      case rel => exact ⟨j + 1, by omega, by go_num, by first | rfl | trivial⟩
      case measure => simp [intOf]; omega
    · go_wp2_with fail
      go_ret
      exact ⟨rfl, hb⟩

set_option maxHeartbeats 2000000 in
theorem dead_law_3 (a0 a1 : Int) (hm : a0 % 4 = 3) (h0 : 0 ≤ a0) (h1 : a0 ≤ 255) (g0 : 0 ≤ a1) (g1 : a1 ≤ 255) (w : World) :
    Calls Yba.prog 3 #[.int .u8 a0, .int .u8 a1] w fun e w' => e = .returned (.bool true) ∧ Below w.heap.size w w' := by
  have hr3 : 0 ≤ a1 % 8 := by omega
  have hr4 : a1 % 8 ≤ 7 := by omega
  go_enter Yba.func3, Yba.ntmps3
  go_wp2_with (go_at_call 5; refine (make_3 _).mono ?_; rintro e w' ⟨b, c, rfl, h3, hc, hbc, hwc, hcs, hb⟩)
  have hc5 : (w'.setChan c 1 #[] false 1 1 false).heap[c]? = some (.chan 1 #[] false 1 1 false) := heap_setChan _ _ _ _ _ _ _ _ hcs
  have h35 : (w'.setChan c 1 #[] false 1 1 false).cell? ⟨b, 3, none⟩ = some (.chan (some c)) := by
    rw [World.cell?_of_block (w := w') (a := ⟨b, 3, none⟩) (setChan_other w' c b _ _ _ _ _ _ (by omega))]; exact h3
  have hb5 : Below w.heap.size w (w'.setChan c 1 #[] false 1 1 false) := below_setChan hb hwc _ _ _ _ _ _
  go_loopw [8] (fun si wr => ∃ j : Nat, (j : Int) ≤ a1 % 8 + 1 ∧ si = .int .i64 j ∧ ((j = 0 ∧ wr = w') ∨ (0 < j ∧ wr = w'.setChan c 1 #[] false 1 1 false))) (fun si _ => (9 - intOf si).toNat)
  case atStart => exact ⟨0, by omega, rfl, Or.inl ⟨rfl, rfl⟩⟩
  case round =>
    obtain ⟨j, hj, rfl, hrel⟩ := hrel
    rcases hrel with ⟨rfl, rfl⟩ | ⟨hpos, rfl⟩
    · have hlt2 : (0 : Int) < a1 % 8 + 1 := by omega
      go_wp2_with (go_at_call 6; refine (dead_buf _ _ _ _ _ _ hc h3).mono ?_; rintro e w' ⟨rfl, rfl⟩)
      go_roundw
      case rel => exact ⟨1, by omega, by go_num, Or.inr ⟨by omega, by first | rfl | trivial⟩⟩
      case measure => simp [intOf]
    · have hj0 : ¬ (j : Int) = 0 := by omega
      clear hc h3 hb
      generalize w'.setChan c 1 #[] false 1 1 false = W5 at *
      by_cases hlt2 : (j : Int) < a1 % 8 + 1
      · go_wp2_with (go_at_call 6; refine (dead_open _ _ _ _ _ _ _ hc5 h35).mono ?_; rintro e w' ⟨rfl, rfl⟩)
        go_roundw
        case rel => exact ⟨j + 1, by omega, by go_num, Or.inr ⟨by omega, by first | rfl | trivial⟩⟩
        case measure => simp [intOf]; omega
      · go_wp2_with fail
        go_ret
        exact ⟨rfl, hb5⟩

theorem dead_law (a0 a1 : Int) (h0 : 0 ≤ a0) (h1 : a0 ≤ 255) (g0 : 0 ≤ a1) (g1 : a1 ≤ 255) (w : World) :
    Calls Yba.prog 3 #[.int .u8 a0, .int .u8 a1] w fun e w' => e = .returned (.bool true) ∧ Below w.heap.size w w' := by
  have h : a0 % 4 = 0 ∨ a0 % 4 = 1 ∨ a0 % 4 = 2 ∨ a0 % 4 = 3 := by omega
  rcases h with h | h | h | h
  · exact dead_law_0 a0 a1 h h0 h1 g0 g1 w
  · exact dead_law_1 a0 a1 h h0 h1 g0 g1 w
  · exact dead_law_2 a0 a1 h h0 h1 g0 g1 w
  · exact dead_law_3 a0 a1 h h0 h1 g0 g1 w
end Go.Proofs.Ybulkcltq
