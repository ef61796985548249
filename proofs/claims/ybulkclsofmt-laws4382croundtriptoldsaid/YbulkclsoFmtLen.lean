import Derived.Test.YbulkclsoFmtChecked
import Derived.Lib.Strings
import Derived.Lib.Slices
import Derived.Lib.Small
import Derived.Lib.Walk
import Derived.Lib.BitFns
namespace Go.Proofs.YbulkclsoFmt

set_option maxHeartbeats 4000000 in
set_option maxRecDepth 100000 in
/-- bits.Len64 of a uint64 is its bit length; the world is as it was. -/
theorem len64_any (x : Int) (w : World) (h0 : 0 ≤ x) (h1 : x ≤ 18446744073709551615) :
    Calls Ybaf.prog 12 #[.int .u64 x] w fun e w' => e = .returned (.int .i64 (Lib.bitLen x.toNat)) ∧ w' = w := by
  go_enter Ybaf.func12, Ybaf.ntmps12
  go_wp2
  all_goals (go_ret; refine ⟨congrArg Ending.returned (congrArg (Value.int IntKind.i64) ?_), rfl⟩)
  all_goals first
    | (rw [Lib.len8_of (x / 4294967296 / 65536 / 256 % 256) (by omega) (by omega)]
       have e : (x / 4294967296 / 65536 / 256 % 256).toNat = x.toNat / 72057594037927936 := by omega
       have l := Lib.bitLen_le8' (x / 4294967296 / 65536 / 256 % 256) (by omega) (by omega)
       have s := Lib.bitLen_shift56 x.toNat (by omega) (by omega)
       rw [e] at l ⊢
       omega)
    | (rw [Lib.len8_of (x / 4294967296 / 65536 % 256) (by omega) (by omega)]
       have e : (x / 4294967296 / 65536 % 256).toNat = x.toNat / 281474976710656 := by omega
       have l := Lib.bitLen_le8' (x / 4294967296 / 65536 % 256) (by omega) (by omega)
       have s := Lib.bitLen_shift48 x.toNat (by omega) (by omega)
       rw [e] at l ⊢
       omega)
    | (rw [Lib.len8_of (x / 4294967296 / 256 % 256) (by omega) (by omega)]
       have e : (x / 4294967296 / 256 % 256).toNat = x.toNat / 1099511627776 := by omega
       have l := Lib.bitLen_le8' (x / 4294967296 / 256 % 256) (by omega) (by omega)
       have s := Lib.bitLen_shift40 x.toNat (by omega) (by omega)
       rw [e] at l ⊢
       omega)
    | (rw [Lib.len8_of (x / 4294967296 % 256) (by omega) (by omega)]
       have e : (x / 4294967296 % 256).toNat = x.toNat / 4294967296 := by omega
       have l := Lib.bitLen_le8' (x / 4294967296 % 256) (by omega) (by omega)
       have s := Lib.bitLen_shift32 x.toNat (by omega) (by omega)
       rw [e] at l ⊢
       omega)
    | (rw [Lib.len8_of (x / 65536 / 256 % 256) (by omega) (by omega)]
       have e : (x / 65536 / 256 % 256).toNat = x.toNat / 16777216 := by omega
       have l := Lib.bitLen_le8' (x / 65536 / 256 % 256) (by omega) (by omega)
       have s := Lib.bitLen_shift24 x.toNat (by omega) (by omega)
       rw [e] at l ⊢
       omega)
    | (rw [Lib.len8_of (x / 65536 % 256) (by omega) (by omega)]
       have e : (x / 65536 % 256).toNat = x.toNat / 65536 := by omega
       have l := Lib.bitLen_le8' (x / 65536 % 256) (by omega) (by omega)
       have s := Lib.bitLen_shift16 x.toNat (by omega) (by omega)
       rw [e] at l ⊢
       omega)
    | (rw [Lib.len8_of (x / 256 % 256) (by omega) (by omega)]
       have e : (x / 256 % 256).toNat = x.toNat / 256 := by omega
       have l := Lib.bitLen_le8' (x / 256 % 256) (by omega) (by omega)
       have s := Lib.bitLen_shift8 x.toNat (by omega) (by omega)
       rw [e] at l ⊢
       omega)
    | (rw [Lib.len8_of (x % 256) (by omega) (by omega)]
       have e : (x % 256).toNat = x.toNat := by omega
       have l := Lib.bitLen_le8' (x % 256) (by omega) (by omega)
       rw [e] at l ⊢
       omega)


theorem lt_bitLen : ∀ (f x : Nat), x < 2 ^ f → x < 2 ^ Lib.bitLenAux f x
  | 0, x, h => by simpa [Lib.bitLenAux] using h
  | f + 1, x, h => by
    simp only [Lib.bitLenAux]
    split
    · subst x; simp
    · have ih := lt_bitLen f (x / 2) (by rw [Nat.pow_succ] at h; omega)
      rw [Nat.add_comm, Nat.pow_succ]; omega

theorem half_facts {x : Nat} (hx : x < 18446744073709551616) : (Lib.bitLen x + 1) / 2 ≤ 32 ∧ x < 2 ^ ((Lib.bitLen x + 1) / 2) * 2 ^ ((Lib.bitLen x + 1) / 2) ∧ Lib.bitLen x ≤ 64 := by
  have h1 := Lib.bitLen_le x 64 (Nat.le_refl _) hx
  refine ⟨by omega, ?_, h1⟩
  have h2 : x < 2 ^ Lib.bitLen x := lt_bitLen 64 x hx
  rw [← Nat.pow_add]
  exact Nat.lt_of_lt_of_le h2 (Nat.pow_le_pow_right (by decide) (by omega))
end Go.Proofs.YbulkclsoFmt
