import Derived.Test.YbulkclsoRows
import Derived.WalkKit
import Derived.ProofKit
import Derived.OpenShut
import Derived.ShutString
import Derived.ChangeOld
import Derived.Below
import Derived.Outline
import Derived.WalkLawsBesides
import Derived.Deep.QuietTactic
import Derived.BigQuiet
import Derived.RegionTactic
import Derived.Lib.SmallJoins
import Derived.Laws.BitsAllLaws
import Derived.Laws.ShiftsVarLaws
namespace Go.Proofs.Ybulkclso
open Go.RowKit

theorem mono_of {x : Int} (h0 : 0 ≤ x) (h1 : x < 1000000000) : bits BinOp.and IntKind.u64 x 9223372036854775808 = 0 := by
  rw [u64_and x 9223372036854775808 h0 (by omega) (by decide) (by decide)]
  have h := (and_two_pow_eq_zero x 63 h0).2 (by omega)
  have e : ((2 : Int) ^ 63).toNat = (9223372036854775808 : Int).toNat := by decide
  rw [e] at h
  rw [h]; rfl
theorem mask_of {x : Int} (h0 : 0 ≤ x) (h1 : x < 1000000000) : bits BinOp.and IntKind.u64 x 1073741823 = x := by
  rw [u64_and x 1073741823 h0 (by omega) (by decide) (by decide)]
  have e : (1073741823 : Int).toNat = 2 ^ 30 - 1 := by decide
  rw [e, Nat.and_two_pow_sub_one_eq_mod]
  omega
theorem notmask_of {x : Int} (h0 : 0 ≤ x) (h1 : x < 1000000000) : bits BinOp.andNot IntKind.u64 x 1073741823 = 0 := by
  rw [u64_andNot x 1073741823 h0 (by omega) (by decide) (by decide)]
  have e : 18446744073709551615 - (1073741823 : Int).toNat = 2 ^ 30 * (2 ^ 34 - 1) := by decide
  rw [e]
  have : x.toNat &&& 2 ^ 30 * (2 ^ 34 - 1) = 0 := by
    apply Nat.eq_of_testBit_eq
    intro i
    rw [Nat.testBit_and, Nat.zero_testBit, Nat.testBit_two_pow_mul]
    by_cases hi : i < 30
    · simp [Nat.not_le.2 hi]
    · have hx : x.toNat < 2 ^ i := Nat.lt_of_lt_of_le (show x.toNat < 2 ^ 30 by omega) (Nat.pow_le_pow_right (by decide) (by omega))
      simp [Nat.testBit_lt_two_pow hx]
  rw [this]; rfl
theorem or_of {x : Int} (h0 : 0 ≤ x) (h1 : x < 1000000000) : bits BinOp.or IntKind.u64 0 x = x := by
  rw [u64_or 0 x (by decide) (by decide) h0 (by omega)]
  simp; omega

set_option maxHeartbeats 1000000 in
theorem nsec_any (w : World) (b : Nat) (x : Int) (h0 : 0 ≤ x) (h1 : x < 1000000000) (c0 : w.cell? ⟨b, 0, none⟩ = some (.int .u64 x)) :
    Calls Yba.prog 16 #[.pointer (some ⟨b, 0, none⟩)] w fun e w' => e = .returned (.int .i32 x) ∧ w' = w := by
  have hm := mask_of h0 h1
  go_enter Yba.func16, Yba.ntmps16
  go_wp2_with fail
  go_ret
  exact ⟨rfl, rfl⟩

set_option maxHeartbeats 1000000 in
theorem sec_any (w : World) (b : Nat) (x y : Int) (h0 : 0 ≤ x) (h1 : x < 1000000000) (c0 : w.cell? ⟨b, 0, none⟩ = some (.int .u64 x)) (c1 : w.cell? ⟨b, 1, none⟩ = some (.int .i64 y)) :
    Calls Yba.prog 21 #[.pointer (some ⟨b, 0, none⟩)] w fun e w' => e = .returned (.int .i64 y) ∧ w' = w := by
  have hm := mono_of h0 h1
  go_enter Yba.func21, Yba.ntmps21
  go_wp2_with fail
  go_ret
  exact ⟨rfl, rfl⟩

set_option maxHeartbeats 1000000 in
theorem addSec_any (w : World) (b : Nat) (x y d : Int) (h0 : 0 ≤ x) (h1 : x < 1000000000) (hy1 : -100000000000 ≤ y) (hy2 : y ≤ 100000000000) (hd1 : -100000000000 ≤ d) (hd2 : d ≤ 100000000000)
    (c0 : w.cell? ⟨b, 0, none⟩ = some (.int .u64 x)) (c1 : w.cell? ⟨b, 1, none⟩ = some (.int .i64 y)) (f1 : w.frozen? ⟨b, 1, none⟩ = false) :
    Calls Yba.prog 17 #[.pointer (some ⟨b, 0, none⟩), .int .i64 d] w fun e w' => e = .returned (.tuple #[]) ∧ w' = w.setCell ⟨b, 1, none⟩ (.int .i64 (y + d)) := by
  have hm := mono_of h0 h1
  by_cases hd : 0 < d
  · have hs : y < y + d := by omega
    go_enter Yba.func17, Yba.ntmps17
    go_wp2_with fail
    go_end0
    exact ⟨rfl, rfl⟩
  · have hs : ¬ y < y + d := by omega
    go_enter Yba.func17, Yba.ntmps17
    go_wp2_with fail
    go_end0
    exact ⟨rfl, rfl⟩

/-- The time t nanoseconds from the zero time. -/
def tm (t : Int) : Value := .agg #[.int .u64 (t % 1000000000), .int .i64 (t / 1000000000), .pointer none]

set_option maxHeartbeats 2000000 in
theorem add_any (t d : Int) (ht1 : -20000000000000000000 ≤ t) (ht2 : t ≤ 20000000000000000000) (hd1 : -9223372036854775808 ≤ d) (hd2 : d ≤ 9223372036854775807) (w : World) :
    Calls Yba.prog 6 #[tm t, .int .i64 d] w fun e w' => e = .returned (tm (t + d)) ∧ Below w.heap.size w w' := by
  have HT : Hid (tm (t + d) = .agg #[.int .u64 ((t + d) % 1000000000), .int .i64 ((t + d) / 1000000000), .pointer none]) := rfl
  unfold tm
  have hx0 : 0 ≤ t % 1000000000 := by omega
  have hx1 : t % 1000000000 < 1000000000 := by omega
  have hy1 : -50000000000 ≤ t / 1000000000 := by omega
  have hy2 : t / 1000000000 ≤ 50000000000 := by omega
  have hte : Hid (t = 1000000000 * (t / 1000000000) + t % 1000000000) := (Int.mul_ediv_add_emod t 1000000000).symm
  generalize t % 1000000000 = x at *
  generalize t / 1000000000 = y at *
  have hm := mono_of hx0 hx1
  have hnm := notmask_of hx0 hx1
  have hde : Hid (d = 1000000000 * (d.tdiv 1000000000) + d.tmod 1000000000) := (Int.mul_tdiv_add_tmod d 1000000000).symm
  have hr1 : -1000000000 < d.tmod 1000000000 := Int.lt_tmod_of_pos d (by decide)
  have hr2 : d.tmod 1000000000 < 1000000000 := Int.tmod_lt_of_pos d (by decide)
  have hq1 : -9223372038 ≤ d.tdiv 1000000000 := by have := hde.out; omega
  have hq2 : d.tdiv 1000000000 ≤ 9223372037 := by have := hde.out; omega
  by_cases hge : 1000000000 ≤ x + d.tmod 1000000000
  · have v0 : 0 ≤ x + d.tmod 1000000000 - 1000000000 := by omega
    have v1 : x + d.tmod 1000000000 - 1000000000 < 1000000000 := by omega
    have ho := or_of v0 v1
    have hm2 := mono_of v0 v1
    have E1 : Hid ((t + d) % 1000000000 = x + d.tmod 1000000000 - 1000000000) := by show _ = _; have h1 := hte.out; have h2 := hde.out; generalize d.tmod 1000000000 = R at *; generalize d.tdiv 1000000000 = D at *; omega
    have E2 : Hid ((t + d) / 1000000000 = y + (d.tdiv 1000000000 + 1)) := by show _ = _; have h1 := hte.out; have h2 := hde.out; generalize d.tmod 1000000000 = R at *; generalize d.tdiv 1000000000 = D at *; omega
    go_enter Yba.func6, Yba.ntmps6
    go_wp2_with (go_at_call 16; refine (nsec_any _ _ x hx0 hx1 (by simp)).mono ?_; rintro e w' ⟨rfl, rfl⟩)
    refine (addSec_any _ _ (x + d.tmod 1000000000 - 1000000000) y (d.tdiv 1000000000 + 1) v0 v1 (by omega) (by omega) (by omega) (by omega) (by simp [World.cell?_alloc_past]) (by simp [World.cell?_alloc_past]) (by simp)).mono ?_
    rintro e w' ⟨rfl, rfl⟩
    go_wp2_with fail
    refine bodyPost_ret (v := .agg #[.int .u64 (x + d.tmod 1000000000 - 1000000000), .int .i64 (y + (d.tdiv 1000000000 + 1)), .pointer none]) (by simp [results, Yba.results6, go_sem]) rfl ⟨by rw [E1.out, E2.out], ?_⟩
    exact ((Below.refl _ _).alloc (Nat.le_refl _) _).alloc (by simp) _
  · by_cases hlt : x + d.tmod 1000000000 < 0
    · have v0 : 0 ≤ x + d.tmod 1000000000 + 1000000000 := by omega
      have v1 : x + d.tmod 1000000000 + 1000000000 < 1000000000 := by omega
      have ho := or_of v0 v1
      have hm2 := mono_of v0 v1
      have E1 : Hid ((t + d) % 1000000000 = x + d.tmod 1000000000 + 1000000000) := by show _ = _; have h1 := hte.out; have h2 := hde.out; generalize d.tmod 1000000000 = R at *; generalize d.tdiv 1000000000 = D at *; omega
      have E2 : Hid ((t + d) / 1000000000 = y + (d.tdiv 1000000000 - 1)) := by show _ = _; have h1 := hte.out; have h2 := hde.out; generalize d.tmod 1000000000 = R at *; generalize d.tdiv 1000000000 = D at *; omega
      go_enter Yba.func6, Yba.ntmps6
      go_wp2_with (go_at_call 16; refine (nsec_any _ _ x hx0 hx1 (by simp)).mono ?_; rintro e w' ⟨rfl, rfl⟩)
      refine (addSec_any _ _ (x + d.tmod 1000000000 + 1000000000) y (d.tdiv 1000000000 - 1) v0 v1 (by omega) (by omega) (by omega) (by omega) (by simp [World.cell?_alloc_past]) (by simp [World.cell?_alloc_past]) (by simp)).mono ?_
      rintro e w' ⟨rfl, rfl⟩
      go_wp2_with fail
      refine bodyPost_ret (v := .agg #[.int .u64 (x + d.tmod 1000000000 + 1000000000), .int .i64 (y + (d.tdiv 1000000000 - 1)), .pointer none]) (by simp [results, Yba.results6, go_sem]) rfl ⟨by rw [E1.out, E2.out], ?_⟩
      exact ((Below.refl _ _).alloc (Nat.le_refl _) _).alloc (by simp) _
    · have v0 : 0 ≤ x + d.tmod 1000000000 := by omega
      have v1 : x + d.tmod 1000000000 < 1000000000 := by omega
      have ho := or_of v0 v1
      have hm2 := mono_of v0 v1
      have E1 : Hid ((t + d) % 1000000000 = x + d.tmod 1000000000) := by show _ = _; have h1 := hte.out; have h2 := hde.out; generalize d.tmod 1000000000 = R at *; generalize d.tdiv 1000000000 = D at *; omega
      have E2 : Hid ((t + d) / 1000000000 = y + (d.tdiv 1000000000)) := by show _ = _; have h1 := hte.out; have h2 := hde.out; generalize d.tmod 1000000000 = R at *; generalize d.tdiv 1000000000 = D at *; omega
      go_enter Yba.func6, Yba.ntmps6
      go_wp2_with (go_at_call 16; refine (nsec_any _ _ x hx0 hx1 (by simp)).mono ?_; rintro e w' ⟨rfl, rfl⟩)
      refine (addSec_any _ _ (x + d.tmod 1000000000) y (d.tdiv 1000000000) v0 v1 (by omega) (by omega) (by omega) (by omega) (by simp [World.cell?_alloc_past]) (by simp [World.cell?_alloc_past]) (by simp)).mono ?_
      rintro e w' ⟨rfl, rfl⟩
      go_wp2_with fail
      refine bodyPost_ret (v := .agg #[.int .u64 (x + d.tmod 1000000000), .int .i64 (y + (d.tdiv 1000000000)), .pointer none]) (by simp [results, Yba.results6, go_sem]) rfl ⟨by rw [E1.out, E2.out], ?_⟩
      exact ((Below.refl _ _).alloc (Nat.le_refl _) _).alloc (by simp) _
end Go.Proofs.Ybulkclso
