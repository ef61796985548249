import Derived.Test.YbulkclsoLost
namespace Go.Proofs.Ybulkclso
open Go.RowKit

def I64 (x : Int) : Prop := -9223372036854775808 ≤ x ∧ x ≤ 9223372036854775807

def UBlk (sent : Int) (to : Option Addr) : Obj := .cells #[.int .u8 0, .int .i64 0, .int .u64 0, .int .u64 0, .int .i64 0, .int .u64 0, .bool false, .bool false, .int .u64 0, .pointer none, .nilIface,
  .int .u64 (sent % 1000000000), .int .i64 (sent / 1000000000), .pointer none, .pointer to, .nilIface] 39
theorem UBlk_has (w : World) (sent : Int) (to : Option Addr) (n : Nat) (hn : n = w.heap.size) :
    HasTm (w.alloc (UBlk sent to)) n 11 sent ∧ (w.alloc (UBlk sent to)).cell? ⟨n, 14, none⟩ = some (.pointer to) ∧ (w.alloc (UBlk sent to)).cell? ⟨n, 15, none⟩ = some .nilIface := by
  subst hn
  refine ⟨⟨?_, ?_, ?_⟩, ?_, ?_⟩ <;> simp [UBlk]

set_option maxHeartbeats 4000000 in
theorem lostlaw_nil (seq acked sent heard now timeout : Int) (hs : I64 sent) (hh : I64 heard) (hn : I64 now) (ht : I64 timeout) (w : World) :
    Calls Yba.prog 3 #[.bool false, .int .u64 seq, .int .u64 acked, .int .i64 sent, .int .i64 heard, .int .i64 now, .int .i64 timeout] w fun e w' => e = .returned (.bool true) ∧ Below w.heap.size w w' := by
  obtain ⟨hs1, hs2⟩ := hs
  obtain ⟨hh1, hh2⟩ := hh
  obtain ⟨hn1, hn2⟩ := hn
  obtain ⟨ht1, ht2⟩ := ht
  go_enter Yba.func3, Yba.ntmps3
  go_wp2_with fail
  refine (add_any 0 sent (by decide) (by decide) hs1 hs2 _).mono ?_
  rintro e w1 ⟨rfl, hb1⟩
  have hB1 : HasTm w1 w.heap.size 0 0 := HasTm.keep (w := w.alloc (.cells #[.int .u64 0, .int .i64 0, .pointer none] 25)) ⟨by simp, by simp, by simp⟩ hb1
  have hw1 : Below w.heap.size w w1 := ((Below.refl _ _).alloc (Nat.le_refl _) _).trans (hb1.mono (by simp))
  rw [Int.zero_add]
  clear hb1
  obtain ⟨g0, g1, g2⟩ := hB1
  have gz : w.heap.size < w1.heap.size := World.block_lt_of_cell? _ _ g0
  simp only [Nat.zero_add] at g0 g1 g2
  unfold tm
  go_wp2_with fail
  refine (add_any 0 heard (by decide) (by decide) hh1 hh2 _).mono ?_
  rintro e w2 ⟨rfl, hb2⟩
  have hS2 : HasTm w2 w1.heap.size 0 sent := HasTm.keep (w := w1.alloc (.cells #[.int .u64 (sent % 1000000000), .int .i64 (sent / 1000000000), .pointer none] 25)) ⟨by simp, by simp, by simp⟩ hb2
  have hB2 : HasTm w2 w.heap.size 0 0 := HasTm.keep (HasTm.keep (w := w1) ⟨g0, g1, g2⟩ ((Below.refl _ _).alloc (Nat.le_refl _) _)) hb2
  have hw2 : Below w.heap.size w w2 := (hw1.alloc hw1.size _).trans (hb2.mono (by simp; omega))
  rw [Int.zero_add]
  clear hb2 g0 g1 g2 hw1 gz
  obtain ⟨g0, g1, g2⟩ := hB2
  obtain ⟨s0, s1, s2⟩ := hS2
  have gz : w.heap.size < w2.heap.size := World.block_lt_of_cell? _ _ g0
  have sz : w1.heap.size < w2.heap.size := World.block_lt_of_cell? _ _ s0
  simp only [Nat.zero_add] at g0 g1 g2 s0 s1 s2
  unfold tm
  go_wp2_with fail
  refine (add_any 0 now (by decide) (by decide) hn1 hn2 _).mono ?_
  rintro e w3 ⟨rfl, hb3⟩
  have hS3 : HasTm w3 w1.heap.size 0 sent := HasTm.keep (HasTm.keep (w := w2) ⟨s0, s1, s2⟩ ((Below.refl _ _).alloc (Nat.le_refl _) _)) hb3
  have hH3 : HasTm w3 w2.heap.size 0 heard := HasTm.keep (w := w2.alloc (.cells #[.int .u64 (heard % 1000000000), .int .i64 (heard / 1000000000), .pointer none] 25)) ⟨by simp, by simp, by simp⟩ hb3
  have hw3 : Below w.heap.size w w3 := (hw2.alloc hw2.size _).trans (hb3.mono (by simp; omega))
  rw [Int.zero_add]
  clear hb3 g0 g1 g2 s0 s1 s2 hw2 gz sz
  obtain ⟨s0, s1, s2⟩ := hS3
  have sz : w1.heap.size < w3.heap.size := World.block_lt_of_cell? _ _ s0
  simp only [Nat.zero_add] at s0 s1 s2
  unfold tm
  go_wp2_with fail
  have hw4 : Below w.heap.size w ((w3.alloc (.cells #[.int .u64 (now % 1000000000), .int .i64 (now / 1000000000), .pointer none] 25)).alloc (UBlk sent none)) := (hw3.alloc hw3.size _).alloc (by have := hw3.size; simp; omega) _
  have hS4 : HasTm ((w3.alloc (.cells #[.int .u64 (now % 1000000000), .int .i64 (now / 1000000000), .pointer none] 25)).alloc (UBlk sent none)) w1.heap.size 0 sent := HasTm.keep (w := w3) ⟨s0, s1, s2⟩ (((Below.refl _ _).alloc (Nat.le_refl _) _).alloc (by simp) _)
  have hU4 := UBlk_has (w3.alloc (.cells #[.int .u64 (now % 1000000000), .int .i64 (now / 1000000000), .pointer none] 25)) sent none (w3.heap.size + 1) (by simp)
  refine (lost_nil (w3.heap.size + 1) seq sent now timeout ((w3.alloc (.cells #[.int .u64 (now % 1000000000), .int .i64 (now / 1000000000), .pointer none] 25)).alloc (UBlk sent none)) hs1 hs2 ht1 ht2 hU4.1 hU4.2.1).mono ?_
  rintro e w4 ⟨rfl, hb4⟩
  have hw5 : Below w.heap.size w w4 := hw4.trans (hb4.mono hw4.size)
  have hS5 := hS4.keep hb4
  have hU5 := hU4.1.keep hb4
  have ut := cellB hb4 hU4.2.1
  have uc := cellB hb4 hU4.2.2
  clear hw4 hS4 hU4 hb4 s0 s1 s2 sz hw3 hH3
  obtain ⟨s0, s1, s2⟩ := hS5
  obtain ⟨u0, u1, u2⟩ := hU5
  simp only [Nat.zero_add] at s0 s1 s2
  go_wp2_with (first | (go_at_call 8; refine (geq_any now sent timeout hs1 hs2 ht1 ht2 hn1 hn2 _).mono ?_; rintro e w' ⟨rfl, rfl⟩))
  go_region_held3 (fun w' => w'.cell? ⟨w1.heap.size, 0, none⟩ = some (.int .u64 (sent % 1000000000)) ∧ w'.cell? ⟨w1.heap.size, 1, none⟩ = some (.int .i64 (sent / 1000000000)) ∧ w'.cell? ⟨w1.heap.size, 2, none⟩ = some (.pointer none) ∧
      w'.cell? ⟨w3.heap.size + 1, 11, none⟩ = some (.int .u64 (sent % 1000000000)) ∧ w'.cell? ⟨w3.heap.size + 1, 12, none⟩ = some (.int .i64 (sent / 1000000000)) ∧ w'.cell? ⟨w3.heap.size + 1, 13, none⟩ = some (.pointer none) ∧
      w'.cell? ⟨w3.heap.size + 1, 14, none⟩ = some (.pointer none) ∧ w'.cell? ⟨w3.heap.size + 1, 15, none⟩ = some .nilIface)
    (first | (simp [go_sem, *]) | (refine ⟨?_, ?_, ?_, ?_, ?_, ?_, ?_, ?_⟩ <;> refine cellB ‹Below _ _ _› ?_ <;> simp [*]))
    (first | (go_at_call 9; refine (equal_any sent _).mono ?_; rintro e wA ⟨rfl, hbA⟩))
  go_wp2_with fail
  go_ret
  exact ⟨rfl, hw5.drew.trans (hbA.mono hw5.size)⟩
end Go.Proofs.Ybulkclso
