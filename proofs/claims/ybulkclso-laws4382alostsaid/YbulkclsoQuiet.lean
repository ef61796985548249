import Derived.Test.YbulkclsoCmp
import Derived.Deep.RegionHeld3
namespace Go.Proofs.Ybulkclso
open Go.RowKit

theorem cellB {w w' : World} {a : Addr} {v : Value} (hb : Below w.heap.size w w') (hc : w.cell? a = some v) : w'.cell? a = some v := (hb.cell (World.block_lt_of_cell? w a hc)).trans hc

def lateOf (h s : Int) : Int := if s < h then h else s

theorem notlt (a b : Int) : (!decide (b < a)) = decide (a ≤ b) := by
  by_cases h : b < a
  · simp [h]
  · simp [h]; omega

set_option maxHeartbeats 2000000 in
theorem quiet_any (bp : Nat) (h s n d : Int) (w : World) (hh1 : -9223372036854775808 ≤ h) (hh2 : h ≤ 9223372036854775807) (hs1 : -9223372036854775808 ≤ s) (hs2 : s ≤ 9223372036854775807) (hd1 : -9223372036854775808 ≤ d) (hd2 : d ≤ 9223372036854775807)
    (c3 : w.cell? ⟨bp, 3, none⟩ = some (.int .u64 (h % 1000000000))) (c4 : w.cell? ⟨bp, 4, none⟩ = some (.int .i64 (h / 1000000000))) (c5 : w.cell? ⟨bp, 5, none⟩ = some (.pointer none)) :
    Calls Yba.prog 19 #[.pointer (some ⟨bp, 0, none⟩), tm s, tm n, .int .i64 d] w fun e w' => e = .returned (.bool (decide (lateOf h s + d ≤ n))) ∧ Below w.heap.size w w' := by
  have hbp : bp < w.heap.size := World.block_lt_of_cell? _ _ c3
  unfold tm
  go_enter Yba.func19, Yba.ntmps19
  go_wp2_with fail
  go_region_held3 (fun w' => w'.cell? ⟨bp, 3, none⟩ = some (.int .u64 (h % 1000000000)) ∧ w'.cell? ⟨bp, 4, none⟩ = some (.int .i64 (h / 1000000000)) ∧ w'.cell? ⟨bp, 5, none⟩ = some (.pointer none) ∧
      w'.cell? ⟨w.heap.size, 0, none⟩ = some (.int .u64 (s % 1000000000)) ∧ w'.cell? ⟨w.heap.size, 1, none⟩ = some (.int .i64 (s / 1000000000)) ∧ w'.cell? ⟨w.heap.size, 2, none⟩ = some (.pointer none))
    (first | (simp [go_sem, World.cell?_alloc_past, *]) | (refine ⟨?_, ?_, ?_, ?_, ?_, ?_⟩ <;> refine cellB ‹Below _ _ _› ?_ <;> simp [*]))
    (first | (go_at_call 27; refine (after_any h s _).mono ?_; rintro e w1 ⟨rfl, hb1⟩))
  obtain ⟨W0, hW0⟩ : ∃ W0, W0 = (((w.alloc (.cells #[.int .u64 (s % 1000000000), .int .i64 (s / 1000000000), .pointer none] 25)).alloc (.cells #[.int .u64 (n % 1000000000), .int .i64 (n / 1000000000), .pointer none] 25)).drew) := ⟨_, rfl⟩
  have hb1' : Below W0.heap.size W0 w1 := by rw [hW0]; exact hb1
  have hbw : Below w.heap.size w W0 := by rw [hW0]; exact (((Below.refl _ _).alloc (Nat.le_refl _) _).alloc (by simp) _).drew
  have k0 : w1.cell? ⟨bp, 3, none⟩ = some (.int .u64 (h % 1000000000)) := cellB hb1' (cellB hbw c3)
  have k1 : w1.cell? ⟨bp, 4, none⟩ = some (.int .i64 (h / 1000000000)) := cellB hb1' (cellB hbw c4)
  have k2 : w1.cell? ⟨bp, 5, none⟩ = some (.pointer none) := cellB hb1' (cellB hbw c5)
  have s0 : w1.cell? ⟨w.heap.size, 0, none⟩ = some (.int .u64 (s % 1000000000)) := cellB hb1' (by rw [hW0]; simp [go_sem, World.cell?_alloc_past])
  have s1 : w1.cell? ⟨w.heap.size, 1, none⟩ = some (.int .i64 (s / 1000000000)) := cellB hb1' (by rw [hW0]; simp [go_sem, World.cell?_alloc_past])
  have s2 : w1.cell? ⟨w.heap.size, 2, none⟩ = some (.pointer none) := cellB hb1' (by rw [hW0]; simp [go_sem, World.cell?_alloc_past])
  have n0 : w1.cell? ⟨w.heap.size + 1, 0, none⟩ = some (.int .u64 (n % 1000000000)) := cellB hb1' (by rw [hW0]; simp [go_sem])
  have n1 : w1.cell? ⟨w.heap.size + 1, 1, none⟩ = some (.int .i64 (n / 1000000000)) := cellB hb1' (by rw [hW0]; simp [go_sem])
  have n2 : w1.cell? ⟨w.heap.size + 1, 2, none⟩ = some (.pointer none) := cellB hb1' (by rw [hW0]; simp [go_sem])
  have fz : ∀ j, w1.frozen? ⟨w.heap.size, j, none⟩ = false := by
    intro j
    have hs : W0.heap.size = w.heap.size + 2 := by rw [hW0]; simp
    rw [hb1'.frozen (p := ⟨w.heap.size, j, none⟩) (by rw [hs]; simp), hW0]
    have hb2 : Below (w.heap.size + 1) (w.alloc (.cells #[.int .u64 (s % 1000000000), .int .i64 (s / 1000000000), .pointer none] 25)) (((w.alloc (.cells #[.int .u64 (s % 1000000000), .int .i64 (s / 1000000000), .pointer none] 25)).alloc (.cells #[.int .u64 (n % 1000000000), .int .i64 (n / 1000000000), .pointer none] 25)).drew) := ((Below.refl _ _).alloc (by simp) _).drew
    rw [hb2.frozen (p := ⟨w.heap.size, j, none⟩) (by simp)]
    simp
  have hbW : Below w.heap.size w w1 := hbw.trans (hb1'.mono hbw.size)
  clear hb1 hb1' hbw hW0 W0 c3 c4 c5
  by_cases hlt : s < h
  · have HL : Hid (lateOf h s = h) := by show _ = _; simp [lateOf, hlt]
    go_wp2_with fail
    have p0 : (((w1.setCell ⟨w.heap.size, 0, none⟩ (.int .u64 (h % 1000000000))).setCell ⟨w.heap.size, 1, none⟩ (.int .i64 (h / 1000000000))).setCell ⟨w.heap.size, 2, none⟩ (.pointer none)).cell? ⟨w.heap.size, 0, none⟩ = some (.int .u64 (h % 1000000000)) := by simp [go_sem, s0]
    have p1 : (((w1.setCell ⟨w.heap.size, 0, none⟩ (.int .u64 (h % 1000000000))).setCell ⟨w.heap.size, 1, none⟩ (.int .i64 (h / 1000000000))).setCell ⟨w.heap.size, 2, none⟩ (.pointer none)).cell? ⟨w.heap.size, 1, none⟩ = some (.int .i64 (h / 1000000000)) := by simp [go_sem, s1]
    have p2 : (((w1.setCell ⟨w.heap.size, 0, none⟩ (.int .u64 (h % 1000000000))).setCell ⟨w.heap.size, 1, none⟩ (.int .i64 (h / 1000000000))).setCell ⟨w.heap.size, 2, none⟩ (.pointer none)).cell? ⟨w.heap.size, 2, none⟩ = some (.pointer none) := by simp [go_sem, s2]
    have m0 : (((w1.setCell ⟨w.heap.size, 0, none⟩ (.int .u64 (h % 1000000000))).setCell ⟨w.heap.size, 1, none⟩ (.int .i64 (h / 1000000000))).setCell ⟨w.heap.size, 2, none⟩ (.pointer none)).cell? ⟨w.heap.size + 1, 0, none⟩ = some (.int .u64 (n % 1000000000)) := by simp [go_sem, n0]
    have m1 : (((w1.setCell ⟨w.heap.size, 0, none⟩ (.int .u64 (h % 1000000000))).setCell ⟨w.heap.size, 1, none⟩ (.int .i64 (h / 1000000000))).setCell ⟨w.heap.size, 2, none⟩ (.pointer none)).cell? ⟨w.heap.size + 1, 1, none⟩ = some (.int .i64 (n / 1000000000)) := by simp [go_sem, n1]
    have m2 : (((w1.setCell ⟨w.heap.size, 0, none⟩ (.int .u64 (h % 1000000000))).setCell ⟨w.heap.size, 1, none⟩ (.int .i64 (h / 1000000000))).setCell ⟨w.heap.size, 2, none⟩ (.pointer none)).cell? ⟨w.heap.size + 1, 2, none⟩ = some (.pointer none) := by simp [go_sem, n2]
    have hb2 : Below w.heap.size w (((w1.setCell ⟨w.heap.size, 0, none⟩ (.int .u64 (h % 1000000000))).setCell ⟨w.heap.size, 1, none⟩ (.int .i64 (h / 1000000000))).setCell ⟨w.heap.size, 2, none⟩ (.pointer none)) := ((hbW.setCell (by simp) _).setCell (by simp) _).setCell (by simp) _
    clear hlt fz k0 k1 k2 s0 s1 s2 n0 n1 n2
    generalize ((w1.setCell ⟨w.heap.size, 0, none⟩ (.int .u64 (h % 1000000000))).setCell ⟨w.heap.size, 1, none⟩ (.int .i64 (h / 1000000000))).setCell ⟨w.heap.size, 2, none⟩ (.pointer none) = w2 at *
    go_region_held3 (fun w' => w'.cell? ⟨w.heap.size, 0, none⟩ = some (.int .u64 (h % 1000000000)) ∧ w'.cell? ⟨w.heap.size, 1, none⟩ = some (.int .i64 (h / 1000000000)) ∧ w'.cell? ⟨w.heap.size, 2, none⟩ = some (.pointer none) ∧
        w'.cell? ⟨w.heap.size + 1, 0, none⟩ = some (.int .u64 (n % 1000000000)) ∧ w'.cell? ⟨w.heap.size + 1, 1, none⟩ = some (.int .i64 (n / 1000000000)) ∧ w'.cell? ⟨w.heap.size + 1, 2, none⟩ = some (.pointer none))
      (first | (simp [go_sem, *]) | (refine ⟨?_, ?_, ?_, ?_, ?_, ?_⟩ <;> refine cellB ‹Below _ _ _› ?_ <;> simp [*]))
      (first | (go_at_call 6; refine (add_any h d (by omega) (by omega) hd1 hd2 _).mono ?_; rintro e wA ⟨rfl, hbA⟩) | (go_at_call 20; refine (before_any n (h + d) _).mono ?_; rintro e wB ⟨rfl, hbB⟩))
    go_wp2_with fail
    go_ret
    have hA : Below w.heap.size w wA := hb2.drew.trans (hbA.mono hb2.size)
    exact ⟨by rw [HL.out, ← notlt]; rfl, hA.trans (hbB.mono hA.size)⟩
  · have HL : Hid (lateOf h s = s) := by show _ = _; simp [lateOf, hlt]
    go_wp2_with fail
    clear hlt fz k0 k1 k2
    go_region_held3 (fun w' => w'.cell? ⟨w.heap.size, 0, none⟩ = some (.int .u64 (s % 1000000000)) ∧ w'.cell? ⟨w.heap.size, 1, none⟩ = some (.int .i64 (s / 1000000000)) ∧ w'.cell? ⟨w.heap.size, 2, none⟩ = some (.pointer none) ∧
        w'.cell? ⟨w.heap.size + 1, 0, none⟩ = some (.int .u64 (n % 1000000000)) ∧ w'.cell? ⟨w.heap.size + 1, 1, none⟩ = some (.int .i64 (n / 1000000000)) ∧ w'.cell? ⟨w.heap.size + 1, 2, none⟩ = some (.pointer none))
      (first | (simp [go_sem, *]) | (refine ⟨?_, ?_, ?_, ?_, ?_, ?_⟩ <;> refine cellB ‹Below _ _ _› ?_ <;> simp [*]))
      (first | (go_at_call 6; refine (add_any s d (by omega) (by omega) hd1 hd2 _).mono ?_; rintro e wA ⟨rfl, hbA⟩) | (go_at_call 20; refine (before_any n (s + d) _).mono ?_; rintro e wB ⟨rfl, hbB⟩))
    go_wp2_with fail
    go_ret
    have hA : Below w.heap.size w wA := hbW.drew.trans (hbA.mono hbW.size)
    exact ⟨by rw [HL.out, ← notlt]; rfl, hA.trans (hbB.mono hA.size)⟩
end Go.Proofs.Ybulkclso
