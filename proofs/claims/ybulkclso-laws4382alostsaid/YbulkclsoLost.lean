import Derived.Test.YbulkclsoQuiet
namespace Go.Proofs.Ybulkclso
open Go.RowKit

/-- a time.Time in memory -/
structure HasTm (w : World) (b o : Nat) (t : Int) : Prop where
  c0 : w.cell? ⟨b, o, none⟩ = some (.int .u64 (t % 1000000000))
  c1 : w.cell? ⟨b, o + 1, none⟩ = some (.int .i64 (t / 1000000000))
  c2 : w.cell? ⟨b, o + 1 + 1, none⟩ = some (.pointer none)

theorem HasTm.keep {w w' : World} {b o : Nat} {t : Int} (h : HasTm w b o t) (hb : Below w.heap.size w w') : HasTm w' b o t := ⟨cellB hb h.c0, cellB hb h.c1, cellB hb h.c2⟩

set_option maxHeartbeats 2000000 in
theorem lost_nil (bu : Nat) (seq sent now d : Int) (w : World) (hs1 : -9223372036854775808 ≤ sent) (hs2 : sent ≤ 9223372036854775807) (hd1 : -9223372036854775808 ≤ d) (hd2 : d ≤ 9223372036854775807)
    (hu : HasTm w bu 11 sent) (ht : w.cell? ⟨bu, 14, none⟩ = some (.pointer none)) :
    Calls Yba.prog 7 #[.pointer (some ⟨bu, 0, none⟩), .int .u64 seq, tm now, .int .i64 d] w fun e w' => e = .returned (.bool (decide (sent + d ≤ now))) ∧ Below w.heap.size w w' := by
  have hbu : bu < w.heap.size := World.block_lt_of_cell? _ _ ht
  obtain ⟨u0, u1, u2⟩ := hu
  unfold tm
  go_enter Yba.func7, Yba.ntmps7
  go_wp2_with fail
  go_region_held3 (fun w' => w'.cell? ⟨w.heap.size, 0, none⟩ = some (.int .u64 (now % 1000000000)) ∧ w'.cell? ⟨w.heap.size, 1, none⟩ = some (.int .i64 (now / 1000000000)) ∧ w'.cell? ⟨w.heap.size, 2, none⟩ = some (.pointer none) ∧
      w'.cell? ⟨bu, 11, none⟩ = some (.int .u64 (sent % 1000000000)) ∧ w'.cell? ⟨bu, 12, none⟩ = some (.int .i64 (sent / 1000000000)) ∧ w'.cell? ⟨bu, 13, none⟩ = some (.pointer none))
    (first | (simp [go_sem, World.cell?_alloc_past, *]) | (refine ⟨?_, ?_, ?_, ?_, ?_, ?_⟩ <;> refine cellB ‹Below _ _ _› ?_ <;> simp [*]))
    (first | (go_at_call 6; refine (add_any sent d (by omega) (by omega) hd1 hd2 _).mono ?_; rintro e wA ⟨rfl, hbA⟩) | (go_at_call 20; refine (before_any now (sent + d) _).mono ?_; rintro e wB ⟨rfl, hbB⟩))
  go_wp2_with fail
  go_ret
  have hA : Below w.heap.size w wA := ((Below.refl _ _).alloc (Nat.le_refl _) _).drew.trans (hbA.mono (by simp))
  exact ⟨by rw [← notlt]; rfl, hA.trans (hbB.mono hA.size)⟩

set_option maxHeartbeats 2000000 in
theorem lost_acked (bu bp : Nat) (seq acked now d : Int) (w : World) (hlt : seq < acked)
    (ht : w.cell? ⟨bu, 14, none⟩ = some (.pointer (some ⟨bp, 0, none⟩))) (ha : w.cell? ⟨bp, 6, none⟩ = some (.int .u64 acked)) :
    Calls Yba.prog 7 #[.pointer (some ⟨bu, 0, none⟩), .int .u64 seq, tm now, .int .i64 d] w fun e w' => e = .returned (.bool true) ∧ Below w.heap.size w w' := by
  have hbu : bu < w.heap.size := World.block_lt_of_cell? _ _ ht
  have hbp : bp < w.heap.size := World.block_lt_of_cell? _ _ ha
  unfold tm
  go_enter Yba.func7, Yba.ntmps7
  go_wp2_with fail
  go_quiet (fail)
  go_wp2_with fail
  go_ret
  exact ⟨rfl, below_drewN ((Below.refl _ _).alloc (Nat.le_refl _) _) _⟩

set_option maxHeartbeats 2000000 in
theorem lost_peer (bu bp : Nat) (seq acked heard sent now d : Int) (w : World) (hlt : ¬ seq < acked)
    (hh1 : -9223372036854775808 ≤ heard) (hh2 : heard ≤ 9223372036854775807) (hs1 : -9223372036854775808 ≤ sent) (hs2 : sent ≤ 9223372036854775807) (hd1 : -9223372036854775808 ≤ d) (hd2 : d ≤ 9223372036854775807)
    (hu : HasTm w bu 11 sent) (hp : HasTm w bp 3 heard)
    (ht : w.cell? ⟨bu, 14, none⟩ = some (.pointer (some ⟨bp, 0, none⟩))) (ha : w.cell? ⟨bp, 6, none⟩ = some (.int .u64 acked)) :
    Calls Yba.prog 7 #[.pointer (some ⟨bu, 0, none⟩), .int .u64 seq, tm now, .int .i64 d] w fun e w' => e = .returned (.bool (decide (lateOf heard sent + d ≤ now))) ∧ Below w.heap.size w w' := by
  have hbu : bu < w.heap.size := World.block_lt_of_cell? _ _ ht
  have hbp : bp < w.heap.size := World.block_lt_of_cell? _ _ ha
  have hd : decide (seq < acked) = false := decide_eq_false hlt
  have hp' := hp
  obtain ⟨u0, u1, u2⟩ := hu
  obtain ⟨p0, p1, p2⟩ := hp
  clear hlt
  unfold tm
  go_enter Yba.func7, Yba.ntmps7
  go_wp2_with fail
  go_region_held3 (fun w' => w'.cell? ⟨w.heap.size, 0, none⟩ = some (.int .u64 (now % 1000000000)) ∧ w'.cell? ⟨w.heap.size, 1, none⟩ = some (.int .i64 (now / 1000000000)) ∧ w'.cell? ⟨w.heap.size, 2, none⟩ = some (.pointer none) ∧
      w'.cell? ⟨bu, 11, none⟩ = some (.int .u64 (sent % 1000000000)) ∧ w'.cell? ⟨bu, 12, none⟩ = some (.int .i64 (sent / 1000000000)) ∧ w'.cell? ⟨bu, 13, none⟩ = some (.pointer none) ∧ w'.cell? ⟨bp, 6, none⟩ = some (.int .u64 acked))
    (first | (simp [go_sem, World.cell?_alloc_past, *]) | (refine ⟨?_, ?_, ?_, ?_, ?_, ?_, ?_⟩ <;> refine cellB ‹Below _ _ _› ?_ <;> simp [*]))
    (first | (go_at_call 19; refine (quiet_any bp heard sent now d _ hh1 hh2 hs1 hs2 hd1 hd2 (by simp [go_sem, World.cell?_alloc_past, *]) (by simp [go_sem, World.cell?_alloc_past, *]) (by simp [go_sem, World.cell?_alloc_past, *])).mono ?_; rintro e wA ⟨rfl, hbA⟩))
  go_wp2_with fail
  go_ret
  exact ⟨rfl, ((Below.refl _ _).alloc (Nat.le_refl _) _).drew.trans (hbA.mono (by simp))⟩
end Go.Proofs.Ybulkclso
