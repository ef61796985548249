import Derived.Test.YbulkclsoFmtMix
namespace Go.Proofs.YbulkclsoFmt
open Go.RowKit

/-- the round function -/
def gN (h k r : Nat) : Nat := mixN (r ^^^ k) &&& (2 ^ h - 1)
def pl (c0 last pg : Value) (h k0 k1 k2 k3 : Nat) : Value := .agg #[c0, last, pg, .int .u64 h, .int .u64 k0, .int .u64 k1, .int .u64 k2, .int .u64 k3]

theorem pow32 {h : Nat} (hh : h ≤ 32) : 2 ^ h ≤ 4294967296 := Nat.le_trans (Nat.pow_le_pow_right (by decide) hh) (by decide)
theorem gN_lt (h k r : Nat) : gN h k r < 2 ^ h := Nat.lt_of_le_of_lt Nat.and_le_right (by have : 0 < 2 ^ h := Nat.pow_pos (by decide); omega)

theorem u64w (n : Int) : IntKind.u64.wrap n = n % 18446744073709551616 := by simp [IntKind.wrap, IntKind.bits, IntKind.signed]

theorem mask_eq {h : Nat} (hh : h ≤ 32) : IntKind.u64.wrap (IntKind.u64.wrap ((2 : Int) ^ h) - 1) = ((2 ^ h - 1 : Nat) : Int) := by
  have h1 := pow32 hh
  have h2 : 0 < 2 ^ h := Nat.pow_pos (by decide)
  have e : ((2 : Int) ^ h) = ((2 ^ h : Nat) : Int) := by simp
  rw [e, u64w, u64w]
  omega
theorem low_eq {h x : Nat} (hh : h ≤ 32) (hx : x < 18446744073709551616) : bits BinOp.and IntKind.u64 (x : Int) ((2 ^ h - 1 : Nat) : Int) = ((x % 2 ^ h : Nat) : Int) := by
  have h1 := pow32 hh
  rw [u64_and_nat _ _ hx (by omega), Nat.and_two_pow_sub_one_eq_mod]
theorem high_eq (h x : Nat) : ((x : Int) / 2 ^ h) = ((x / 2 ^ h : Nat) : Int) := by simp
theorem xor_eq {a b : Nat} (ha : a < 18446744073709551616) (hb : b < 18446744073709551616) : bits BinOp.xor IntKind.u64 (a : Int) (b : Int) = ((a ^^^ b : Nat) : Int) := bits_xor_u64_nat a b ha hb
theorem xor_lt {a b : Nat} (ha : a < 18446744073709551616) (hb : b < 18446744073709551616) : a ^^^ b < 18446744073709551616 := Nat.xor_lt_two_pow (n := 64) ha hb
theorem g_eq {h k r : Nat} (hh : h ≤ 32) : bits BinOp.and IntKind.u64 (mixN (r ^^^ k) : Int) ((2 ^ h - 1 : Nat) : Int) = (gN h k r : Int) := by
  have h1 := pow32 hh
  rw [u64_and_nat _ _ (mixN_lt _) (by omega)]
  rfl
theorem join_eq {h l r : Nat} (hh : h ≤ 32) (hl : l < 2 ^ h) (hr : r < 2 ^ h) : bits BinOp.or IntKind.u64 (IntKind.u64.wrap ((l : Int) * 2 ^ h)) (r : Int) = (Fei.join h (l, r) : Int) := by
  have h1 := pow32 hh
  have h2 : l * 2 ^ h < 4294967296 * 4294967296 := Nat.mul_lt_mul_of_lt_of_le (by omega) h1 (by decide)
  have e : ((l : Int) * 2 ^ h) = ((l * 2 ^ h : Nat) : Int) := by simp
  rw [e, u64w]
  have e2 : ((l * 2 ^ h : Nat) : Int) % 18446744073709551616 = ((l * 2 ^ h : Nat) : Int) := by omega
  rw [e2, u64_or_nat _ _ (by omega) (by omega)]
  congr 1
  unfold Fei.join
  show l * 2 ^ h ||| r = l * 2 ^ h + r
  rw [Nat.mul_comm, Nat.two_pow_add_eq_or_of_lt hr]

theorem fwd_snoc (g : Nat → Nat → Nat) : ∀ (ks : List Nat) (k : Nat) (p : Nat × Nat), Fei.fwd g (ks ++ [k]) p = Fei.rnd (g k) (Fei.fwd g ks p)
  | [], _, _ => rfl
  | _ :: ks, k, p => by
    show Fei.fwd g (ks ++ [k]) _ = _
    rw [fwd_snoc g ks k]
    rfl

theorem idx0 (a b c d : Value) (w : World) : (Instr.index 34 (.agg #[a, b, c, d]) (.int .i64 0)).run Ybaf.prog w = .ok a w := by kernel_rfl
theorem idx1 (a b c d : Value) (w : World) : (Instr.index 34 (.agg #[a, b, c, d]) (.int .i64 1)).run Ybaf.prog w = .ok b w := by kernel_rfl
theorem idx2 (a b c d : Value) (w : World) : (Instr.index 34 (.agg #[a, b, c, d]) (.int .i64 2)).run Ybaf.prog w = .ok c w := by kernel_rfl
theorem idx3 (a b c d : Value) (w : World) : (Instr.index 34 (.agg #[a, b, c, d]) (.int .i64 3)).run Ybaf.prog w = .ok d w := by kernel_rfl

set_option maxHeartbeats 2000000 in
theorem enc_any (c0 last pg : Value) (h k0 k1 k2 k3 x : Nat) (hh : h ≤ 32) (hx : x < 2 ^ h * 2 ^ h) (w : World)
    (b0 : k0 < 18446744073709551616) (b1 : k1 < 18446744073709551616) (b2 : k2 < 18446744073709551616) (b3 : k3 < 18446744073709551616) :
    Calls Ybaf.prog 6 #[pl c0 last pg h k0 k1 k2 k3, .int .u64 x] w fun e w' => e = .returned (.int .u64 (Fei.E (gN h) h [k0, k1, k2, k3] x)) ∧ Below w.heap.size w w' := by
  have hp := pow32 hh
  have hx64 : x < 18446744073709551616 := Nat.lt_of_lt_of_le hx (Nat.le_trans (Nat.mul_le_mul hp hp) (by decide))
  have hmask := mask_eq hh
  have hlow := low_eq hh hx64
  have hhigh := high_eq h x
  have HS := Fei.split_small hx
  have HE : Hid (Fei.E (gN h) h [k0, k1, k2, k3] x = Fei.join h (Fei.fwd (gN h) [k0, k1, k2, k3] (x / 2 ^ h, x % 2 ^ h))) := rfl
  have hg : ∀ k r : Nat, bits BinOp.and IntKind.u64 (mixN (r ^^^ k) : Int) ((2 ^ h - 1 : Nat) : Int) = (gN h k r : Int) := fun k r => g_eq hh
  have HG := gN_lt h
  unfold Fei.split at HS
  clear hx
  generalize 2 ^ h - 1 = M at *
  generalize x / 2 ^ h = L0 at *
  generalize x % 2 ^ h = R0 at *
  have HF : ∀ i, Fei.Small h (Fei.fwd (gN h) ([k0, k1, k2, k3].take i) (L0, R0)) := fun i => Fei.fwd_small HG _ _ HS
  unfold pl
  go_enter Ybaf.func6, Ybaf.ntmps6
  go_wp2_with fail
  clear hmask hlow hhigh
  go_loop [6, 7, 23] (fun sl sr si => ∃ i : Nat, i ≤ 4 ∧ si = .int .i64 i ∧ sl = .int .u64 ((Fei.fwd (gN h) ([k0, k1, k2, k3].take i) (L0, R0)).1 : Nat) ∧ sr = .int .u64 ((Fei.fwd (gN h) ([k0, k1, k2, k3].take i) (L0, R0)).2 : Nat))
    (fun _ _ si => 4 - (intOf si).toNat)
  case atStart => exact ⟨0, by omega, rfl, rfl, rfl⟩
  case round =>
    obtain ⟨i, hi, rfl, rfl, rfl⟩ := hrel
    have hS := HF i
    have h5 : i = 0 ∨ i = 1 ∨ i = 2 ∨ i = 3 ∨ i = 4 := by omega
    rcases h5 with rfl | rfl | rfl | rfl | rfl
    · have HN : Hid (Fei.fwd (gN h) ([k0, k1, k2, k3].take 1) (L0, R0) = Fei.rnd (gN h k0) (Fei.fwd (gN h) ([k0, k1, k2, k3].take 0) (L0, R0))) := fwd_snoc (gN h) [] k0 (L0, R0)
      generalize Fei.fwd (gN h) ([k0, k1, k2, k3].take 0) (L0, R0) = p at *
      obtain ⟨l, r⟩ := p
      obtain ⟨hl, hr⟩ := hS
      have f1 := xor_eq (a := r) (b := k0) (by omega) b0
      have f2 := hg k0 r
      have hgl := gN_lt h k0 r
      have f3 := xor_eq (a := l) (b := gN h k0 r) (by omega) (by omega)
      have f4 := xor_lt (a := r) (b := k0) (by omega) b0
      have f5 := idx0
      go_wp2_with (go_at_call 13; refine (mix_any (r ^^^ k0) f4 _).mono ?_; rintro e w' ⟨rfl, rfl⟩)
      go_round
      case rel => exact ⟨1, by omega, by go_num, by rw [HN.out]; rfl, by rw [HN.out]; rfl⟩
      case measure => simp [intOf]
    · have HN : Hid (Fei.fwd (gN h) ([k0, k1, k2, k3].take 2) (L0, R0) = Fei.rnd (gN h k1) (Fei.fwd (gN h) ([k0, k1, k2, k3].take 1) (L0, R0))) := fwd_snoc (gN h) [k0] k1 (L0, R0)
      generalize Fei.fwd (gN h) ([k0, k1, k2, k3].take 1) (L0, R0) = p at *
      obtain ⟨l, r⟩ := p
      obtain ⟨hl, hr⟩ := hS
      have f1 := xor_eq (a := r) (b := k1) (by omega) b1
      have f2 := hg k1 r
      have hgl := gN_lt h k1 r
      have f3 := xor_eq (a := l) (b := gN h k1 r) (by omega) (by omega)
      have f4 := xor_lt (a := r) (b := k1) (by omega) b1
      have f5 := idx1
      go_wp2_with (go_at_call 13; refine (mix_any (r ^^^ k1) f4 _).mono ?_; rintro e w' ⟨rfl, rfl⟩)
      go_round
      case rel => exact ⟨2, by omega, by go_num, by rw [HN.out]; rfl, by rw [HN.out]; rfl⟩
      case measure => simp [intOf]
    · have HN : Hid (Fei.fwd (gN h) ([k0, k1, k2, k3].take 3) (L0, R0) = Fei.rnd (gN h k2) (Fei.fwd (gN h) ([k0, k1, k2, k3].take 2) (L0, R0))) := fwd_snoc (gN h) [k0, k1] k2 (L0, R0)
      generalize Fei.fwd (gN h) ([k0, k1, k2, k3].take 2) (L0, R0) = p at *
      obtain ⟨l, r⟩ := p
      obtain ⟨hl, hr⟩ := hS
      have f1 := xor_eq (a := r) (b := k2) (by omega) b2
      have f2 := hg k2 r
      have hgl := gN_lt h k2 r
      have f3 := xor_eq (a := l) (b := gN h k2 r) (by omega) (by omega)
      have f4 := xor_lt (a := r) (b := k2) (by omega) b2
      have f5 := idx2
      go_wp2_with (go_at_call 13; refine (mix_any (r ^^^ k2) f4 _).mono ?_; rintro e w' ⟨rfl, rfl⟩)
      go_round
      case rel => exact ⟨3, by omega, by go_num, by rw [HN.out]; rfl, by rw [HN.out]; rfl⟩
      case measure => simp [intOf]
    · have HN : Hid (Fei.fwd (gN h) ([k0, k1, k2, k3].take 4) (L0, R0) = Fei.rnd (gN h k3) (Fei.fwd (gN h) ([k0, k1, k2, k3].take 3) (L0, R0))) := fwd_snoc (gN h) [k0, k1, k2] k3 (L0, R0)
      generalize Fei.fwd (gN h) ([k0, k1, k2, k3].take 3) (L0, R0) = p at *
      obtain ⟨l, r⟩ := p
      obtain ⟨hl, hr⟩ := hS
      have f1 := xor_eq (a := r) (b := k3) (by omega) b3
      have f2 := hg k3 r
      have hgl := gN_lt h k3 r
      have f3 := xor_eq (a := l) (b := gN h k3 r) (by omega) (by omega)
      have f4 := xor_lt (a := r) (b := k3) (by omega) b3
      have f5 := idx3
      go_wp2_with (go_at_call 13; refine (mix_any (r ^^^ k3) f4 _).mono ?_; rintro e w' ⟨rfl, rfl⟩)
      go_round
      case rel => exact ⟨4, by omega, by go_num, by rw [HN.out]; rfl, by rw [HN.out]; rfl⟩
      case measure => simp [intOf]
    · have e4 : [k0, k1, k2, k3].take 4 = [k0, k1, k2, k3] := rfl
      rw [e4] at hS ⊢
      generalize Fei.fwd (gN h) [k0, k1, k2, k3] (L0, R0) = p at *
      obtain ⟨l, r⟩ := p
      obtain ⟨hl, hr⟩ := hS
      have f1 := join_eq hh hl hr
      go_wp2_with fail
      go_ret
      exact ⟨by rw [HE.out]; rfl, (Below.refl _ _).alloc (Nat.le_refl _) _⟩
end Go.Proofs.YbulkclsoFmt
