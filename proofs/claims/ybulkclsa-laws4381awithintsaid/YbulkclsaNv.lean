import Derived.Test.YbulkclsaCn
namespace Go.Proofs.Ybulkclsa
open Go.RowKit

def lim (neg : Bool) : Nat := if neg then 9223372036854775808 else 9223372036854775807
def IsI (neg : Bool) (ds : List UInt8) (e : Int) : Prop := (ds.length : Int) ≤ e ∧ e ≤ 19 ∧ ipart ds e.toNat ≤ lim neg
def sgn (neg : Bool) (u : Nat) : Int := if neg then - (u : Int) else u
def intAgg (n : Int) : Value := .agg #[.int .u8 1, .bool false, .int .i64 n, .string ⟨#[]⟩, .pointer none]
def decAgg (neg : Bool) (e : Int) (s : ByteArray) : Value := .agg #[.int .u8 4, .bool neg, .int .i64 e, .string s, .pointer none]

set_option maxHeartbeats 2000000 in
theorem nv_int (neg : Bool) (s : ByteArray) (e : Int) (hD : Digs s.data.toList) (h0 : 0 ≤ e) (hI : IsI neg s.data.toList e) (w : World) :
    Calls Yba.prog 10 #[.bool neg, .string s, .int .i64 e] w fun r w' => r = .returned (intAgg (sgn neg (ipart s.data.toList e.toNat))) ∧ Below w.heap.size w w' := by
  obtain ⟨h1, h2, h3⟩ := hI
  have hs : s.size ≤ 9223372036854775807 := by simp at h1; omega
  have h1' : (s.size : Int) ≤ e := by simpa using h1
  clear h1
  cases neg
  · have hL : ipart s.data.toList e.toNat ≤ 9223372036854775807 := h3
    have hw : IntKind.i64.wrap (ipart s.data.toList e.toNat : Int) = (ipart s.data.toList e.toNat : Int) := by rw [IntKind.wrap_i64]; omega
    clear h3
    go_enter Yba.func10, Yba.ntmps10
    go_wp2_with fail
    refine (integerPart_any _ hs hD _ h0 h2 _).mono ?_
    rintro r w' ⟨rfl, rfl⟩
    go_wp2_with fail
    refine bodyPost_ret (v := intAgg (ipart s.data.toList e.toNat)) (by simp [results, Yba.results10, go_sem, intAgg]) rfl ⟨rfl, ?_⟩
    exact (Below.refl _ _).alloc (Nat.le_refl _) _
  · have hL : ipart s.data.toList e.toNat ≤ 9223372036854775808 := h3
    have hw : IntKind.i64.wrap (IntKind.u64.wrap (-(ipart s.data.toList e.toNat : Int))) = -(ipart s.data.toList e.toNat : Int) := by rw [IntKind.wrap_i64, u64w]; omega
    clear h3
    go_enter Yba.func10, Yba.ntmps10
    go_wp2_with fail
    refine (integerPart_any _ hs hD _ h0 h2 _).mono ?_
    rintro r w' ⟨rfl, rfl⟩
    go_wp2_with fail
    refine bodyPost_ret (v := intAgg (-(ipart s.data.toList e.toNat : Int))) (by simp [results, Yba.results10, go_sem, intAgg]) rfl ⟨rfl, ?_⟩
    exact (Below.refl _ _).alloc (Nat.le_refl _) _

set_option maxHeartbeats 2000000 in
theorem nv_dec (neg : Bool) (s : ByteArray) (e : Int) (hs : s.size ≤ 9223372036854775807) (hD : Digs s.data.toList) (hI : ¬ IsI neg s.data.toList e) (w : World) :
    Calls Yba.prog 10 #[.bool neg, .string s, .int .i64 e] w fun r w' => r = .returned (decAgg neg e s) ∧ Below w.heap.size w w' := by
  by_cases h1 : (s.size : Int) ≤ e
  · by_cases h2 : e ≤ 19
    · have h0 : 0 ≤ e := by omega
      have h3 : lim neg < ipart s.data.toList e.toNat := by
        apply Nat.lt_of_not_le; intro h; exact hI ⟨by simpa using h1, h2, h⟩
      clear hI
      cases neg
      · have hL : ¬ ipart s.data.toList e.toNat ≤ 9223372036854775807 := Nat.not_le_of_lt h3
        clear h3
        go_enter Yba.func10, Yba.ntmps10
        go_wp2_with fail
        refine (integerPart_any _ hs hD _ h0 h2 _).mono ?_
        rintro r w' ⟨rfl, rfl⟩
        generalize ipart s.data.toList e.toNat = U at *
        go_wp2_with fail
        refine bodyPost_ret (v := decAgg false e s) (by simp [results, Yba.results10, go_sem, decAgg]) rfl ⟨rfl, ?_⟩
        exact (Below.refl _ _).alloc (Nat.le_refl _) _
      · have hL : ¬ ipart s.data.toList e.toNat ≤ 9223372036854775808 := Nat.not_le_of_lt h3
        clear h3
        go_enter Yba.func10, Yba.ntmps10
        go_wp2_with fail
        refine (integerPart_any _ hs hD _ h0 h2 _).mono ?_
        rintro r w' ⟨rfl, rfl⟩
        generalize ipart s.data.toList e.toNat = U at *
        go_wp2_with fail
        refine bodyPost_ret (v := decAgg true e s) (by simp [results, Yba.results10, go_sem, decAgg]) rfl ⟨rfl, ?_⟩
        exact (Below.refl _ _).alloc (Nat.le_refl _) _
    · clear hI
      go_enter Yba.func10, Yba.ntmps10
      go_wp2_with fail
      refine bodyPost_ret (v := decAgg neg e s) (by simp [results, Yba.results10, go_sem, decAgg]) rfl ⟨rfl, ?_⟩
      exact (Below.refl _ _).alloc (Nat.le_refl _) _
  · clear hI
    go_enter Yba.func10, Yba.ntmps10
    go_wp2_with fail
    refine bodyPost_ret (v := decAgg neg e s) (by simp [results, Yba.results10, go_sem, decAgg]) rfl ⟨rfl, ?_⟩
    exact (Below.refl _ _).alloc (Nat.le_refl _) _
end Go.Proofs.Ybulkclsa
