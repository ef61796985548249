import Derived.Test.YbulkclsoFmtEnc
namespace Go.Proofs.YbulkclsoFmt
open Go.RowKit

set_option maxHeartbeats 2000000 in
theorem dec_any (c0 last pg : Value) (h k0 k1 k2 k3 x : Nat) (hh : h ≤ 32) (hx : x < 2 ^ h * 2 ^ h) (w : World)
    (b0 : k0 < 18446744073709551616) (b1 : k1 < 18446744073709551616) (b2 : k2 < 18446744073709551616) (b3 : k3 < 18446744073709551616) :
    Calls Ybaf.prog 7 #[pl c0 last pg h k0 k1 k2 k3, .int .u64 x] w fun e w' => e = .returned (.int .u64 (Fei.D (gN h) h [k0, k1, k2, k3] x)) ∧ Below w.heap.size w w' := by
  have hp := pow32 hh
  have hx64 : x < 18446744073709551616 := Nat.lt_of_lt_of_le hx (Nat.le_trans (Nat.mul_le_mul hp hp) (by decide))
  have hmask := mask_eq hh
  have hlow := low_eq hh hx64
  have hhigh := high_eq h x
  have HS := Fei.split_small hx
  have HE : Hid (Fei.D (gN h) h [k0, k1, k2, k3] x = Fei.join h (Fei.bwd (gN h) [k0, k1, k2, k3] (x / 2 ^ h, x % 2 ^ h))) := rfl
  have hg : ∀ k r : Nat, bits BinOp.and IntKind.u64 (mixN (r ^^^ k) : Int) ((2 ^ h - 1 : Nat) : Int) = (gN h k r : Int) := fun k r => g_eq hh
  have HG := gN_lt h
  unfold Fei.split at HS
  clear hx
  generalize 2 ^ h - 1 = M at *
  generalize x / 2 ^ h = L0 at *
  generalize x % 2 ^ h = R0 at *
  have HF : ∀ i, Fei.Small h (Fei.bwd (gN h) ([k0, k1, k2, k3].drop i) (L0, R0)) := fun i => Fei.bwd_small HG _ _ HS
  unfold pl
  go_enter Ybaf.func7, Ybaf.ntmps7
  go_wp2_with fail
  clear hmask hlow hhigh
  go_loop [6, 7, 8] (fun sl sr si => ∃ i : Nat, i ≤ 4 ∧ si = .int .i64 ((i : Int) - 1) ∧ sl = .int .u64 ((Fei.bwd (gN h) ([k0, k1, k2, k3].drop i) (L0, R0)).1 : Nat) ∧ sr = .int .u64 ((Fei.bwd (gN h) ([k0, k1, k2, k3].drop i) (L0, R0)).2 : Nat))
    (fun _ _ si => (intOf si + 1).toNat)
  case atStart => exact ⟨4, by omega, rfl, rfl, rfl⟩
  case round =>
    obtain ⟨i, hi, rfl, rfl, rfl⟩ := hrel
    have hS := HF i
    have h5 : i = 0 ∨ i = 1 ∨ i = 2 ∨ i = 3 ∨ i = 4 := by omega
    rcases h5 with rfl | rfl | rfl | rfl | rfl
    · have e4 : [k0, k1, k2, k3].drop 0 = [k0, k1, k2, k3] := rfl
      rw [e4] at hS ⊢
      generalize Fei.bwd (gN h) [k0, k1, k2, k3] (L0, R0) = p at *
      obtain ⟨l, r⟩ := p
      obtain ⟨hl, hr⟩ := hS
      have f1 := join_eq hh hl hr
      go_wp2_with fail
      go_ret
      exact ⟨by rw [HE.out]; rfl, (Below.refl _ _).alloc (Nat.le_refl _) _⟩
    · have HN : Hid (Fei.bwd (gN h) ([k0, k1, k2, k3].drop 0) (L0, R0) = Fei.unr (gN h k0) (Fei.bwd (gN h) ([k0, k1, k2, k3].drop 1) (L0, R0))) := rfl
      generalize Fei.bwd (gN h) ([k0, k1, k2, k3].drop 1) (L0, R0) = p at *
      obtain ⟨l, r⟩ := p
      obtain ⟨hl, hr⟩ := hS
      have f1 := xor_eq (a := l) (b := k0) (by omega) b0
      have f2 := hg k0 l
      have hgl := gN_lt h k0 l
      have f3 := xor_eq (a := r) (b := gN h k0 l) (by omega) (by omega)
      have f4 := xor_lt (a := l) (b := k0) (by omega) b0
      go_wp2_with (go_at_call 13; refine (mix_any (l ^^^ k0) f4 _).mono ?_; rintro e w' ⟨rfl, rfl⟩)
      go_round
      case rel => exact ⟨0, by omega, by go_num, by rw [HN.out]; rfl, by rw [HN.out]; rfl⟩
      case measure => simp [intOf]
    · have HN : Hid (Fei.bwd (gN h) ([k0, k1, k2, k3].drop 1) (L0, R0) = Fei.unr (gN h k1) (Fei.bwd (gN h) ([k0, k1, k2, k3].drop 2) (L0, R0))) := rfl
      generalize Fei.bwd (gN h) ([k0, k1, k2, k3].drop 2) (L0, R0) = p at *
      obtain ⟨l, r⟩ := p
      obtain ⟨hl, hr⟩ := hS
      have f1 := xor_eq (a := l) (b := k1) (by omega) b1
      have f2 := hg k1 l
      have hgl := gN_lt h k1 l
      have f3 := xor_eq (a := r) (b := gN h k1 l) (by omega) (by omega)
      have f4 := xor_lt (a := l) (b := k1) (by omega) b1
      go_wp2_with (go_at_call 13; refine (mix_any (l ^^^ k1) f4 _).mono ?_; rintro e w' ⟨rfl, rfl⟩)
      go_round
      case rel => exact ⟨1, by omega, by go_num, by rw [HN.out]; rfl, by rw [HN.out]; rfl⟩
      case measure => simp [intOf]
    · have HN : Hid (Fei.bwd (gN h) ([k0, k1, k2, k3].drop 2) (L0, R0) = Fei.unr (gN h k2) (Fei.bwd (gN h) ([k0, k1, k2, k3].drop 3) (L0, R0))) := rfl
      generalize Fei.bwd (gN h) ([k0, k1, k2, k3].drop 3) (L0, R0) = p at *
      obtain ⟨l, r⟩ := p
      obtain ⟨hl, hr⟩ := hS
      have f1 := xor_eq (a := l) (b := k2) (by omega) b2
      have f2 := hg k2 l
      have hgl := gN_lt h k2 l
      have f3 := xor_eq (a := r) (b := gN h k2 l) (by omega) (by omega)
      have f4 := xor_lt (a := l) (b := k2) (by omega) b2
      go_wp2_with (go_at_call 13; refine (mix_any (l ^^^ k2) f4 _).mono ?_; rintro e w' ⟨rfl, rfl⟩)
      go_round
      case rel => exact ⟨2, by omega, by go_num, by rw [HN.out]; rfl, by rw [HN.out]; rfl⟩
      case measure => simp [intOf]
    · have HN : Hid (Fei.bwd (gN h) ([k0, k1, k2, k3].drop 3) (L0, R0) = Fei.unr (gN h k3) (Fei.bwd (gN h) ([k0, k1, k2, k3].drop 4) (L0, R0))) := rfl
      generalize Fei.bwd (gN h) ([k0, k1, k2, k3].drop 4) (L0, R0) = p at *
      obtain ⟨l, r⟩ := p
      obtain ⟨hl, hr⟩ := hS
      have f1 := xor_eq (a := l) (b := k3) (by omega) b3
      have f2 := hg k3 l
      have hgl := gN_lt h k3 l
      have f3 := xor_eq (a := r) (b := gN h k3 l) (by omega) (by omega)
      have f4 := xor_lt (a := l) (b := k3) (by omega) b3
      go_wp2_with (go_at_call 13; refine (mix_any (l ^^^ k3) f4 _).mono ?_; rintro e w' ⟨rfl, rfl⟩)
      go_round
      case rel => exact ⟨3, by omega, by go_num, by rw [HN.out]; rfl, by rw [HN.out]; rfl⟩
      case measure => simp [intOf]
end Go.Proofs.YbulkclsoFmt
