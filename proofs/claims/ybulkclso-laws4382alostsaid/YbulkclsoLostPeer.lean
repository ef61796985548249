import Derived.Test.YbulkclsoLostLaw
import Derived.Lib.Builder
namespace Go.Proofs.Ybulkclso
open Go.RowKit

def PBk (heard acked : Int) : Obj := .cells #[.string ⟨#[]⟩, .chan none, .slice none 0 0, .int .u64 (heard % 1000000000), .int .i64 (heard / 1000000000), .pointer none, .int .u64 acked, .bool false, .bool false] 43
theorem PBk_has (w : World) (heard acked : Int) (n : Nat) (hn : n = w.heap.size) : HasTm (w.alloc (PBk heard acked)) n 3 heard ∧ (w.alloc (PBk heard acked)).cell? ⟨n, 6, none⟩ = some (.int .u64 acked) := by
  subst hn
  refine ⟨⟨?_, ?_, ?_⟩, ?_⟩ <;> simp [PBk]

theorem Yba.info43 : (Yba.prog.info? 43).isSome = true := by kernel_rfl
theorem neq_same (a : Addr) (W : World) : (binOp .neq 35 (.pointer (some a)) (.pointer (some a))).run Yba.prog W = .ok (.bool false) W := by
  obtain ⟨j, hj⟩ := Option.isSome_iff_exists.1 Yba.info43
  exact Lib.run_neq_ptr_same W a Yba.underlying35 hj

def W5 (w3 : World) (sent heard now acked : Int) : World :=
  ((w3.alloc (.cells #[.int .u64 (now % 1000000000), .int .i64 (now / 1000000000), .pointer none] 25)).alloc (UBlk sent (some ⟨w3.heap.size + 1 + 1, 0, none⟩))).alloc (PBk heard acked)

set_option maxHeartbeats 4000000 in
theorem lostlaw_peer (seq acked sent heard now timeout : Int) (hs : I64 sent) (hh : I64 heard) (hn : I64 now) (ht : I64 timeout) (w : World) :
    Calls Yba.prog 3 #[.bool true, .int .u64 seq, .int .u64 acked, .int .i64 sent, .int .i64 heard, .int .i64 now, .int .i64 timeout] w fun e w' => e = .returned (.bool true) ∧ Below w.heap.size w w' := by
  have hneq := neq_same
  obtain ⟨hs1, hs2⟩ := hs
  obtain ⟨hh1, hh2⟩ := hh
  obtain ⟨hn1, hn2⟩ := hn
  obtain ⟨ht1, ht2⟩ := ht
  go_enter Yba.func3, Yba.ntmps3
  go_wp2_with fail
  refine (add_any 0 sent (by decide) (by decide) hs1 hs2 _).mono ?_
  rintro e w1 ⟨rfl, hb1⟩
  have hB1 : HasTm w1 w.heap.size 0 0 := HasTm.keep (w := w.alloc (.cells #[.int .u64 0, .int .i64 0, .pointer none] 25)) ⟨by simp, by simp, by simp⟩ hb1
  have hw1 : Below w.heap.size w w1 := ((Below.refl _ _).alloc (Nat.le_refl _) _).trans (hb1.mono (by simp))
  rw [Int.zero_add]
  clear hb1
  obtain ⟨g0, g1, g2⟩ := hB1
  have gz : w.heap.size < w1.heap.size := World.block_lt_of_cell? _ _ g0
  simp only [Nat.zero_add] at g0 g1 g2
  unfold tm
  go_wp2_with fail
  refine (add_any 0 heard (by decide) (by decide) hh1 hh2 _).mono ?_
  rintro e w2 ⟨rfl, hb2⟩
  have hS2 : HasTm w2 w1.heap.size 0 sent := HasTm.keep (w := w1.alloc (.cells #[.int .u64 (sent % 1000000000), .int .i64 (sent / 1000000000), .pointer none] 25)) ⟨by simp, by simp, by simp⟩ hb2
  have hB2 : HasTm w2 w.heap.size 0 0 := HasTm.keep (HasTm.keep (w := w1) ⟨g0, g1, g2⟩ ((Below.refl _ _).alloc (Nat.le_refl _) _)) hb2
  have hw2 : Below w.heap.size w w2 := (hw1.alloc hw1.size _).trans (hb2.mono (by simp; omega))
  rw [Int.zero_add]
  clear hb2 g0 g1 g2 hw1 gz
  obtain ⟨g0, g1, g2⟩ := hB2
  obtain ⟨s0, s1, s2⟩ := hS2
  have gz : w.heap.size < w2.heap.size := World.block_lt_of_cell? _ _ g0
  have sz : w1.heap.size < w2.heap.size := World.block_lt_of_cell? _ _ s0
  simp only [Nat.zero_add] at g0 g1 g2 s0 s1 s2
  unfold tm
  go_wp2_with fail
  refine (add_any 0 now (by decide) (by decide) hn1 hn2 _).mono ?_
  rintro e w3 ⟨rfl, hb3⟩
  have hS3 : HasTm w3 w1.heap.size 0 sent := HasTm.keep (HasTm.keep (w := w2) ⟨s0, s1, s2⟩ ((Below.refl _ _).alloc (Nat.le_refl _) _)) hb3
  have hH3 : HasTm w3 w2.heap.size 0 heard := HasTm.keep (w := w2.alloc (.cells #[.int .u64 (heard % 1000000000), .int .i64 (heard / 1000000000), .pointer none] 25)) ⟨by simp, by simp, by simp⟩ hb3
  have hw3 : Below w.heap.size w w3 := (hw2.alloc hw2.size _).trans (hb3.mono (by simp; omega))
  rw [Int.zero_add]
  clear hb3 g0 g1 g2 s0 s1 s2 hw2 gz sz
  obtain ⟨s0, s1, s2⟩ := hS3
  have sz : w1.heap.size < w3.heap.size := World.block_lt_of_cell? _ _ s0
  obtain ⟨t0, t1, t2⟩ := hH3
  have tz : w2.heap.size < w3.heap.size := World.block_lt_of_cell? _ _ t0
  simp only [Nat.zero_add] at s0 s1 s2 t0 t1 t2
  unfold tm
  go_wp2_with fail
  have hX : Below w3.heap.size w3 (W5 w3 sent heard now acked) := (((Below.refl _ _).alloc (Nat.le_refl _) _).alloc (by simp) _).alloc (by simp; omega) _
  have hw4 : Below w.heap.size w (W5 w3 sent heard now acked) := hw3.trans (hX.mono hw3.size)
  have hS4 : HasTm (W5 w3 sent heard now acked) w1.heap.size 0 sent := HasTm.keep (w := w3) ⟨s0, s1, s2⟩ hX
  have hT4 : HasTm (W5 w3 sent heard now acked) w2.heap.size 0 heard := HasTm.keep (w := w3) ⟨t0, t1, t2⟩ hX
  have hUU := UBlk_has (w3.alloc (.cells #[.int .u64 (now % 1000000000), .int .i64 (now / 1000000000), .pointer none] 25)) sent (some ⟨w3.heap.size + 1 + 1, 0, none⟩) (w3.heap.size + 1) (by simp)
  have hPP := PBk_has ((w3.alloc (.cells #[.int .u64 (now % 1000000000), .int .i64 (now / 1000000000), .pointer none] 25)).alloc (UBlk sent (some ⟨w3.heap.size + 1 + 1, 0, none⟩))) heard acked (w3.heap.size + 1 + 1) (by simp)
  have hU4 : HasTm (W5 w3 sent heard now acked) (w3.heap.size + 1) 11 sent := hUU.1.keep ((Below.refl _ _).alloc (Nat.le_refl _) _)
  have hU4t : (W5 w3 sent heard now acked).cell? ⟨w3.heap.size + 1, 14, none⟩ = some (.pointer (some ⟨w3.heap.size + 1 + 1, 0, none⟩)) := cellB ((Below.refl _ _).alloc (Nat.le_refl _) _) hUU.2.1
  have hU4c : (W5 w3 sent heard now acked).cell? ⟨w3.heap.size + 1, 15, none⟩ = some .nilIface := cellB ((Below.refl _ _).alloc (Nat.le_refl _) _) hUU.2.2
  have hP4 : HasTm (W5 w3 sent heard now acked) (w3.heap.size + 1 + 1) 3 heard := hPP.1
  have hP4a : (W5 w3 sent heard now acked).cell? ⟨w3.heap.size + 1 + 1, 6, none⟩ = some (.int .u64 acked) := hPP.2
  clear hUU hPP
  by_cases hlt : seq < acked
  · refine (lost_acked (w3.heap.size + 1) (w3.heap.size + 1 + 1) seq acked now timeout (W5 w3 sent heard now acked) hlt hU4t hP4a).mono ?_
    rintro e w4 ⟨rfl, hb4⟩
    have hw5 : Below w.heap.size w w4 := hw4.trans (hb4.mono hw4.size)
    have hS5 := hS4.keep hb4
    have hT5 := hT4.keep hb4
    have hU5 := hU4.keep hb4
    have hP5 := hP4.keep hb4
    have ut := cellB hb4 hU4t
    have uc := cellB hb4 hU4c
    have pa := cellB hb4 hP4a
    clear hw4 hS4 hU4 hU4t hU4c hP4 hP4a hT4 hb4 s0 s1 s2 t0 t1 t2 sz tz hw3 hX
    obtain ⟨s0, s1, s2⟩ := hS5
    obtain ⟨t0, t1, t2⟩ := hT5
    obtain ⟨u0, u1, u2⟩ := hU5
    obtain ⟨p0, p1, p2⟩ := hP5
    simp only [Nat.zero_add] at s0 s1 s2 t0 t1 t2
    by_cases hgt : sent < heard
    all_goals
      go_wp2_with fail
      go_region_held3 (fun w' => w'.cell? ⟨w1.heap.size, 0, none⟩ = some (.int .u64 (sent % 1000000000)) ∧ w'.cell? ⟨w1.heap.size, 1, none⟩ = some (.int .i64 (sent / 1000000000)) ∧ w'.cell? ⟨w1.heap.size, 2, none⟩ = some (.pointer none) ∧
          w'.cell? ⟨w3.heap.size + 1, 11, none⟩ = some (.int .u64 (sent % 1000000000)) ∧ w'.cell? ⟨w3.heap.size + 1, 12, none⟩ = some (.int .i64 (sent / 1000000000)) ∧ w'.cell? ⟨w3.heap.size + 1, 13, none⟩ = some (.pointer none) ∧
          w'.cell? ⟨w3.heap.size + 1, 14, none⟩ = some (.pointer (some ⟨w3.heap.size + 1 + 1, 0, none⟩)) ∧ w'.cell? ⟨w3.heap.size + 1, 15, none⟩ = some .nilIface)
        (first | (simp [go_sem, *]) | (refine ⟨?_, ?_, ?_, ?_, ?_, ?_, ?_, ?_⟩ <;> refine cellB ‹Below _ _ _› ?_ <;> simp [*]))
        (first | (go_at_call 9; refine (equal_any sent _).mono ?_; rintro e wA ⟨rfl, hbA⟩))
      have hw6 : Below w.heap.size w wA := hw5.drew.trans (hbA.mono hw5.size)
      have q0 := cellB hbA t0
      have q1 := cellB hbA t1
      have q2 := cellB hbA t2
      have r0 := cellB hbA p0
      have r1 := cellB hbA p1
      have r2 := cellB hbA p2
      have ra := cellB hbA pa
      clear s0 s1 s2 t0 t1 t2 u0 u1 u2 p0 p1 p2 ut uc pa hw5 hbA
      go_wp2_with fail
      go_region_held3 (fun w' => w'.cell? ⟨w2.heap.size, 0, none⟩ = some (.int .u64 (heard % 1000000000)) ∧ w'.cell? ⟨w2.heap.size, 1, none⟩ = some (.int .i64 (heard / 1000000000)) ∧ w'.cell? ⟨w2.heap.size, 2, none⟩ = some (.pointer none) ∧
          w'.cell? ⟨w3.heap.size + 1 + 1, 3, none⟩ = some (.int .u64 (heard % 1000000000)) ∧ w'.cell? ⟨w3.heap.size + 1 + 1, 4, none⟩ = some (.int .i64 (heard / 1000000000)) ∧ w'.cell? ⟨w3.heap.size + 1 + 1, 5, none⟩ = some (.pointer none) ∧
          w'.cell? ⟨w3.heap.size + 1 + 1, 6, none⟩ = some (.int .u64 acked))
        (first | (simp [go_sem, *]) | (refine ⟨?_, ?_, ?_, ?_, ?_, ?_, ?_⟩ <;> refine cellB ‹Below _ _ _› ?_ <;> simp [*]))
        (first | (go_at_call 9; refine (equal_any heard _).mono ?_; rintro e wB ⟨rfl, hbB⟩))
      go_wp2_with fail
      go_ret
      exact ⟨rfl, hw6.drew.trans (hbB.mono hw6.size)⟩
  · refine (lost_peer (w3.heap.size + 1) (w3.heap.size + 1 + 1) seq acked heard sent now timeout (W5 w3 sent heard now acked) hlt hh1 hh2 hs1 hs2 ht1 ht2 hU4 hP4 hU4t hP4a).mono ?_
    rintro e w4 ⟨rfl, hb4⟩
    have hw5 : Below w.heap.size w w4 := hw4.trans (hb4.mono hw4.size)
    have hS5 := hS4.keep hb4
    have hT5 := hT4.keep hb4
    have hU5 := hU4.keep hb4
    have hP5 := hP4.keep hb4
    have ut := cellB hb4 hU4t
    have uc := cellB hb4 hU4c
    have pa := cellB hb4 hP4a
    clear hw4 hS4 hU4 hU4t hU4c hP4 hP4a hT4 hb4 s0 s1 s2 t0 t1 t2 sz tz hw3 hX
    obtain ⟨s0, s1, s2⟩ := hS5
    obtain ⟨t0, t1, t2⟩ := hT5
    obtain ⟨u0, u1, u2⟩ := hU5
    obtain ⟨p0, p1, p2⟩ := hP5
    simp only [Nat.zero_add] at s0 s1 s2 t0 t1 t2
    have hd : decide (seq < acked) = false := decide_eq_false hlt
    by_cases hgt : sent < heard
    · have hl : lateOf heard sent = heard := by simp [lateOf, hgt]
      rw [hl]
      clear hl
      go_wp2_with (first | (go_at_call 8; refine (geq_any now heard timeout hh1 hh2 ht1 ht2 hn1 hn2 _).mono ?_; rintro e w' ⟨rfl, rfl⟩))
      go_region_held3 (fun w' => w'.cell? ⟨w1.heap.size, 0, none⟩ = some (.int .u64 (sent % 1000000000)) ∧ w'.cell? ⟨w1.heap.size, 1, none⟩ = some (.int .i64 (sent / 1000000000)) ∧ w'.cell? ⟨w1.heap.size, 2, none⟩ = some (.pointer none) ∧
          w'.cell? ⟨w3.heap.size + 1, 11, none⟩ = some (.int .u64 (sent % 1000000000)) ∧ w'.cell? ⟨w3.heap.size + 1, 12, none⟩ = some (.int .i64 (sent / 1000000000)) ∧ w'.cell? ⟨w3.heap.size + 1, 13, none⟩ = some (.pointer none) ∧
          w'.cell? ⟨w3.heap.size + 1, 14, none⟩ = some (.pointer (some ⟨w3.heap.size + 1 + 1, 0, none⟩)) ∧ w'.cell? ⟨w3.heap.size + 1, 15, none⟩ = some .nilIface)
        (first | (simp [go_sem, *]) | (refine ⟨?_, ?_, ?_, ?_, ?_, ?_, ?_, ?_⟩ <;> refine cellB ‹Below _ _ _› ?_ <;> simp [*]))
        (first | (go_at_call 9; refine (equal_any sent _).mono ?_; rintro e wA ⟨rfl, hbA⟩))
      have hw6 : Below w.heap.size w wA := hw5.drew.trans (hbA.mono hw5.size)
      have q0 := cellB hbA t0
      have q1 := cellB hbA t1
      have q2 := cellB hbA t2
      have r0 := cellB hbA p0
      have r1 := cellB hbA p1
      have r2 := cellB hbA p2
      have ra := cellB hbA pa
      clear s0 s1 s2 t0 t1 t2 u0 u1 u2 p0 p1 p2 ut uc pa hw5 hbA
      go_wp2_with fail
      go_region_held3 (fun w' => w'.cell? ⟨w2.heap.size, 0, none⟩ = some (.int .u64 (heard % 1000000000)) ∧ w'.cell? ⟨w2.heap.size, 1, none⟩ = some (.int .i64 (heard / 1000000000)) ∧ w'.cell? ⟨w2.heap.size, 2, none⟩ = some (.pointer none) ∧
          w'.cell? ⟨w3.heap.size + 1 + 1, 3, none⟩ = some (.int .u64 (heard % 1000000000)) ∧ w'.cell? ⟨w3.heap.size + 1 + 1, 4, none⟩ = some (.int .i64 (heard / 1000000000)) ∧ w'.cell? ⟨w3.heap.size + 1 + 1, 5, none⟩ = some (.pointer none) ∧
          w'.cell? ⟨w3.heap.size + 1 + 1, 6, none⟩ = some (.int .u64 acked))
        (first | (simp [go_sem, *]) | (refine ⟨?_, ?_, ?_, ?_, ?_, ?_, ?_⟩ <;> refine cellB ‹Below _ _ _› ?_ <;> simp [*]))
        (first | (go_at_call 9; refine (equal_any heard _).mono ?_; rintro e wB ⟨rfl, hbB⟩))
      go_wp2_with fail
      go_ret
      exact ⟨rfl, hw6.drew.trans (hbB.mono hw6.size)⟩
    · have hl : lateOf heard sent = sent := by simp [lateOf, hgt]
      rw [hl]
      clear hl
      go_wp2_with (first | (go_at_call 8; refine (geq_any now sent timeout hs1 hs2 ht1 ht2 hn1 hn2 _).mono ?_; rintro e w' ⟨rfl, rfl⟩))
      go_region_held3 (fun w' => w'.cell? ⟨w1.heap.size, 0, none⟩ = some (.int .u64 (sent % 1000000000)) ∧ w'.cell? ⟨w1.heap.size, 1, none⟩ = some (.int .i64 (sent / 1000000000)) ∧ w'.cell? ⟨w1.heap.size, 2, none⟩ = some (.pointer none) ∧
          w'.cell? ⟨w3.heap.size + 1, 11, none⟩ = some (.int .u64 (sent % 1000000000)) ∧ w'.cell? ⟨w3.heap.size + 1, 12, none⟩ = some (.int .i64 (sent / 1000000000)) ∧ w'.cell? ⟨w3.heap.size + 1, 13, none⟩ = some (.pointer none) ∧
          w'.cell? ⟨w3.heap.size + 1, 14, none⟩ = some (.pointer (some ⟨w3.heap.size + 1 + 1, 0, none⟩)) ∧ w'.cell? ⟨w3.heap.size + 1, 15, none⟩ = some .nilIface)
        (first | (simp [go_sem, *]) | (refine ⟨?_, ?_, ?_, ?_, ?_, ?_, ?_, ?_⟩ <;> refine cellB ‹Below _ _ _› ?_ <;> simp [*]))
        (first | (go_at_call 9; refine (equal_any sent _).mono ?_; rintro e wA ⟨rfl, hbA⟩))
      have hw6 : Below w.heap.size w wA := hw5.drew.trans (hbA.mono hw5.size)
      have q0 := cellB hbA t0
      have q1 := cellB hbA t1
      have q2 := cellB hbA t2
      have r0 := cellB hbA p0
      have r1 := cellB hbA p1
      have r2 := cellB hbA p2
      have ra := cellB hbA pa
      clear s0 s1 s2 t0 t1 t2 u0 u1 u2 p0 p1 p2 ut uc pa hw5 hbA
      go_wp2_with fail
      go_region_held3 (fun w' => w'.cell? ⟨w2.heap.size, 0, none⟩ = some (.int .u64 (heard % 1000000000)) ∧ w'.cell? ⟨w2.heap.size, 1, none⟩ = some (.int .i64 (heard / 1000000000)) ∧ w'.cell? ⟨w2.heap.size, 2, none⟩ = some (.pointer none) ∧
          w'.cell? ⟨w3.heap.size + 1 + 1, 3, none⟩ = some (.int .u64 (heard % 1000000000)) ∧ w'.cell? ⟨w3.heap.size + 1 + 1, 4, none⟩ = some (.int .i64 (heard / 1000000000)) ∧ w'.cell? ⟨w3.heap.size + 1 + 1, 5, none⟩ = some (.pointer none) ∧
          w'.cell? ⟨w3.heap.size + 1 + 1, 6, none⟩ = some (.int .u64 acked))
        (first | (simp [go_sem, *]) | (refine ⟨?_, ?_, ?_, ?_, ?_, ?_, ?_⟩ <;> refine cellB ‹Below _ _ _› ?_ <;> simp [*]))
        (first | (go_at_call 9; refine (equal_any heard _).mono ?_; rintro e wB ⟨rfl, hbB⟩))
      go_wp2_with fail
      go_ret
      exact ⟨rfl, hw6.drew.trans (hbB.mono hw6.size)⟩
end Go.Proofs.Ybulkclso
