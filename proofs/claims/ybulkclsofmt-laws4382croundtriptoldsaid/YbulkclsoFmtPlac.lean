import Derived.Test.YbulkclsoFmtWalk
import Derived.Test.YbulkclsoFmtLen
namespace Go.Proofs.YbulkclsoFmt
open Go.RowKit

def key (seed j : Nat) : Nat := mixN ((seed + mixN (4 + j)) % 18446744073709551616)
theorem key_lt (seed j : Nat) : key seed j < 18446744073709551616 := mixN_lt _

def zs16 : Obj := .cells #[.int .i64 0, .int .u64 0, .int .u8 0, .int .u64 0, .int .u64 0, .int .u64 0, .int .u64 0, .int .u64 0, .int .i64 0, .int .u64 0, .int .u8 0, .int .u64 0, .int .u64 0, .int .u64 0, .int .u64 0, .int .u64 0] 36

theorem make2 (w : World) : (Instr.makeSlice 23 (.int .i64 2) (.int .i64 2)).run Ybaf.prog w = .ok (.slice (some ⟨w.heap.size, 0, none⟩) 2 2) (w.alloc zs16) := by kernel_rfl

set_option maxHeartbeats 2000000 in
theorem last_any (last : Int) (w : World) :
    Calls Ybaf.prog 11 #[.agg #[.int .u64 last, .int .u64 0, .slice none 0 0]] w fun e w' => e = .returned (.int .u64 last) ∧ Below w.heap.size w w' := by
  go_enter Ybaf.func11, Ybaf.ntmps11
  go_wp2_with fail
  go_ret
  exact ⟨rfl, (Below.refl _ _).alloc (Nat.le_refl _) _⟩

def pBlk (last h v0 v1 v2 v3 : Nat) : Obj := .cells #[.int .i64 1, .int .u64 last, .int .u8 2, .int .u64 h, .int .u64 v0, .int .u64 v1, .int .u64 v2, .int .u64 v3] 36
def kv (seed j i : Nat) : Nat := if i < j then key seed i else 0

/-- what Placements lays: at block g, cells 8 to 15 -/
structure HasP (w : World) (g last h k0 k1 k2 k3 : Nat) : Prop where
  c8 : w.cell? ⟨g, 8, none⟩ = some (.int .i64 1)
  c9 : w.cell? ⟨g, 9, none⟩ = some (.int .u64 last)
  c10 : w.cell? ⟨g, 10, none⟩ = some (.int .u8 2)
  c11 : w.cell? ⟨g, 11, none⟩ = some (.int .u64 h)
  c12 : w.cell? ⟨g, 12, none⟩ = some (.int .u64 k0)
  c13 : w.cell? ⟨g, 13, none⟩ = some (.int .u64 k1)
  c14 : w.cell? ⟨g, 14, none⟩ = some (.int .u64 k2)
  c15 : w.cell? ⟨g, 15, none⟩ = some (.int .u64 k3)

set_option maxHeartbeats 4000000 in
theorem placements_any (last seed : Nat) (hl : last < 18446744073709551616) (w : World) :
    Calls Ybaf.prog 4 #[.agg #[.int .u64 last, .int .u64 0, .slice none 0 0], .int .i64 2, .int .i64 0, .int .u64 seed] w fun e w' => ∃ g : Nat, e = .returned (.tuple #[.slice (some ⟨g, 0, none⟩) 2 2, .nilIface]) ∧
      HasP w' g last ((Lib.bitLen last + 1) / 2) (key seed 0) (key seed 1) (key seed 2) (key seed 3) ∧ Below w.heap.size w w' := by
  have hmk := make2
  have hbl := (half_facts hl).2.2
  obtain ⟨h, hh⟩ : ∃ h, h = (Lib.bitLen last + 1) / 2 := ⟨_, rfl⟩
  rw [← hh]
  have hh2 : ((Lib.bitLen last : Int) + 1) / 2 = (h : Int) := by omega
  clear hh
  have hkey : ∀ j : Nat, IntKind.u64.wrap ((seed : Int) + (mixN (4 + j) : Nat)) = (((seed + mixN (4 + j)) % 18446744073709551616 : Nat) : Int) := by
    intro j; rw [u64w]; omega
  go_enter Ybaf.func4, Ybaf.ntmps4
  go_wp2_with fail
  refine (last_any last _).mono ?_
  rintro e w1 ⟨rfl, hb1⟩
  have hbw : Below w.heap.size w w1 := ((Below.refl _ _).alloc (Nat.le_refl _) _).trans (hb1.mono (by simp))
  clear hb1
  go_wp2_with fail
  go_loopw [12] (fun sr wr => (sr = .int .i64 1 ∧ wr = w1.alloc zs16) ∨ (sr = .int .i64 2 ∧ HasP wr w1.heap.size last h (key seed 0) (key seed 1) (key seed 2) (key seed 3) ∧ Below w.heap.size w wr)) (fun sr _ => 2 - (intOf sr).toNat)
  case atStart => exact Or.inl ⟨rfl, rfl⟩
  case round =>
    rcases hrel with ⟨rfl, rfl⟩ | ⟨rfl, hP, hbr⟩
    · unfold zs16
      go_wp2_with (go_at_call 12; refine (len64_any _ _ (by omega) (by omega)).mono ?_; rintro e w' ⟨rfl, rfl⟩)
      clear hmk hbl hh2
      go_loopw [58] (fun sj wr => ∃ j : Nat, j ≤ 4 ∧ sj = .int .i64 j ∧ wr = (w1.alloc zs16).alloc (pBlk last h (kv seed j 0) (kv seed j 1) (kv seed j 2) (kv seed j 3))) (fun sj _ => 4 - (intOf sj).toNat)
      case atStart => exact ⟨0, by omega, rfl, rfl⟩
      case round =>
        obtain ⟨j, hj, rfl, rfl⟩ := hrel
        have h5 : j = 0 ∨ j = 1 ∨ j = 2 ∨ j = 3 ∨ j = 4 := by omega
        rcases h5 with rfl | rfl | rfl | rfl | rfl
        · have e0 : pBlk last h (kv seed 0 0) (kv seed 0 1) (kv seed 0 2) (kv seed 0 3) = pBlk last h 0 0 0 0 := by simp [kv]
          rw [e0]
          obtain ⟨S, hS⟩ : ∃ S, S = (seed + mixN 4) % 18446744073709551616 := ⟨_, rfl⟩
          have hk : IntKind.u64.wrap ((seed : Int) + (mixN 4 : Nat)) = (S : Int) := by rw [hS]; exact hkey 0
          have HK : Hid (key seed 0 = mixN S) := by show _ = _; rw [hS]; rfl
          have hS64 : S < 18446744073709551616 := by rw [hS]; exact Nat.mod_lt _ (by decide)
          clear hkey hS e0
          unfold pBlk zs16
          go_wp2_with fail
          refine (mix_any 4 (by decide) _).mono ?_
          rintro e w' ⟨rfl, rfl⟩
          go_wp2_with fail
          refine (mix_any S hS64 _).mono ?_
          rintro e w' ⟨rfl, rfl⟩
          rw [← HK.out]
          go_wp2_with fail
          go_roundw
          case rel => exact ⟨1, by omega, by go_num, by simp [kv]⟩
          case measure => simp [intOf]
        · have e0 : pBlk last h (kv seed 1 0) (kv seed 1 1) (kv seed 1 2) (kv seed 1 3) = pBlk last h (key seed 0) 0 0 0 := by simp [kv]
          rw [e0]
          obtain ⟨S, hS⟩ : ∃ S, S = (seed + mixN 5) % 18446744073709551616 := ⟨_, rfl⟩
          have hk : IntKind.u64.wrap ((seed : Int) + (mixN 5 : Nat)) = (S : Int) := by rw [hS]; exact hkey 1
          have HK : Hid (key seed 1 = mixN S) := by show _ = _; rw [hS]; rfl
          have hS64 : S < 18446744073709551616 := by rw [hS]; exact Nat.mod_lt _ (by decide)
          clear hkey hS e0
          unfold pBlk zs16
          go_wp2_with fail
          refine (mix_any 5 (by decide) _).mono ?_
          rintro e w' ⟨rfl, rfl⟩
          go_wp2_with fail
          refine (mix_any S hS64 _).mono ?_
          rintro e w' ⟨rfl, rfl⟩
          rw [← HK.out]
          go_wp2_with fail
          go_roundw
          case rel => exact ⟨2, by omega, by go_num, by simp [kv]⟩
          case measure => simp [intOf]
        · have e0 : pBlk last h (kv seed 2 0) (kv seed 2 1) (kv seed 2 2) (kv seed 2 3) = pBlk last h (key seed 0) (key seed 1) 0 0 := by simp [kv]
          rw [e0]
          obtain ⟨S, hS⟩ : ∃ S, S = (seed + mixN 6) % 18446744073709551616 := ⟨_, rfl⟩
          have hk : IntKind.u64.wrap ((seed : Int) + (mixN 6 : Nat)) = (S : Int) := by rw [hS]; exact hkey 2
          have HK : Hid (key seed 2 = mixN S) := by show _ = _; rw [hS]; rfl
          have hS64 : S < 18446744073709551616 := by rw [hS]; exact Nat.mod_lt _ (by decide)
          clear hkey hS e0
          unfold pBlk zs16
          go_wp2_with fail
          refine (mix_any 6 (by decide) _).mono ?_
          rintro e w' ⟨rfl, rfl⟩
          go_wp2_with fail
          refine (mix_any S hS64 _).mono ?_
          rintro e w' ⟨rfl, rfl⟩
          rw [← HK.out]
          go_wp2_with fail
          go_roundw
          case rel => exact ⟨3, by omega, by go_num, by simp [kv]⟩
          case measure => simp [intOf]
        · have e0 : pBlk last h (kv seed 3 0) (kv seed 3 1) (kv seed 3 2) (kv seed 3 3) = pBlk last h (key seed 0) (key seed 1) (key seed 2) 0 := by simp [kv]
          rw [e0]
          obtain ⟨S, hS⟩ : ∃ S, S = (seed + mixN 7) % 18446744073709551616 := ⟨_, rfl⟩
          have hk : IntKind.u64.wrap ((seed : Int) + (mixN 7 : Nat)) = (S : Int) := by rw [hS]; exact hkey 3
          have HK : Hid (key seed 3 = mixN S) := by show _ = _; rw [hS]; rfl
          have hS64 : S < 18446744073709551616 := by rw [hS]; exact Nat.mod_lt _ (by decide)
          clear hkey hS e0
          unfold pBlk zs16
          go_wp2_with fail
          refine (mix_any 7 (by decide) _).mono ?_
          rintro e w' ⟨rfl, rfl⟩
          go_wp2_with fail
          refine (mix_any S hS64 _).mono ?_
          rintro e w' ⟨rfl, rfl⟩
          rw [← HK.out]
          go_wp2_with fail
          go_roundw
          case rel => exact ⟨4, by omega, by go_num, by simp [kv]⟩
          case measure => simp [intOf]
        · have e0 : pBlk last h (kv seed 4 0) (kv seed 4 1) (kv seed 4 2) (kv seed 4 3) = pBlk last h (key seed 0) (key seed 1) (key seed 2) (key seed 3) := by simp [kv]
          rw [e0]
          clear hkey e0
          unfold pBlk zs16
          go_wp2_with fail
          go_roundw
          case rel =>
            refine Or.inr ⟨rfl, ⟨?_, ?_, ?_, ?_, ?_, ?_, ?_, ?_⟩, (hbw.alloc hbw.size _).alloc (by have := hbw.size; simp; omega) _⟩
            all_goals simp [World.cell?_alloc_past]
          case measure => simp [intOf]
    · go_wp2_with fail
      go_ret2
      exact ⟨_, rfl, hP, hbr⟩
end Go.Proofs.YbulkclsoFmt
