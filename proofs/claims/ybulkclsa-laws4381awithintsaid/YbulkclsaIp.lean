import Derived.Test.YbulkclsaLeaf
namespace Go.Proofs.Ybulkclsa
open Go.RowKit

/-- digit i of ds, 0 past its end -/
def dg (ds : List UInt8) (i : Nat) : Nat := (ds.getD i 48).toNat - 48
def ipart (ds : List UInt8) : Nat → Nat
  | 0 => 0
  | e + 1 => ipart ds e * 10 + dg ds e
def Digs (ds : List UInt8) : Prop := ∀ d ∈ ds, 48 ≤ d.toNat ∧ d.toNat ≤ 57

theorem dg_le {ds : List UInt8} (h : Digs ds) (i : Nat) : dg ds i ≤ 9 := by
  unfold dg
  by_cases hi : i < ds.length
  · have := h ds[i] (List.getElem_mem hi)
    simp [List.getD, List.getElem?_eq_getElem hi]; omega
  · simp [List.getD, List.getElem?_eq_none (Nat.le_of_not_lt hi)]

theorem ipart_lt {ds : List UInt8} (h : Digs ds) (e : Nat) : ipart ds e < 10 ^ e := by
  induction e with
  | zero => simp [ipart]
  | succ e ih => have := dg_le h e; simp only [ipart, Nat.pow_succ]; omega

theorem u64w (n : Int) : IntKind.u64.wrap n = n % 18446744073709551616 := by simp [IntKind.wrap, IntKind.bits, IntKind.signed]

theorem pow18 {k : Nat} (h : k < 19) : 10 ^ k ≤ 1000000000000000000 :=
  Nat.le_trans (Nat.pow_le_pow_right (by decide) (show k ≤ 18 by omega)) (by decide)

theorem dg_str (s : ByteArray) (k : Nat) (h : k < s.size) : dg s.data.toList k = s[k].toNat - 48 := by
  have h' : k < s.data.toList.length := by simpa using h
  unfold dg
  simp [List.getD, List.getElem?_eq_getElem h']
  rfl

theorem dig_str {s : ByteArray} (hd : Digs s.data.toList) (k : Nat) (h : k < s.size) : 48 ≤ s[k].toNat ∧ s[k].toNat ≤ 57 := by
  have h' : k < s.data.toList.length := by simpa using h
  exact hd _ (List.getElem_mem h')

theorem ip_yes {s : ByteArray} (hd : Digs s.data.toList) (k : Nat) (h : k < s.size) (h19 : k < 19) :
    IntKind.u64.wrap (IntKind.u64.wrap (↑(ipart s.data.toList k) * 10) + (↑s[k].toNat - 48) % 256) = ↑(ipart s.data.toList (k + 1)) := by
  have h1 := ipart_lt hd k
  have h2 := pow18 h19
  have h3 := dig_str hd k h
  rw [u64w, u64w, ipart, dg_str s k h]
  omega

theorem ip_no {s : ByteArray} (hd : Digs s.data.toList) (k : Nat) (h : ¬ k < s.size) (h19 : k < 19) :
    IntKind.u64.wrap (↑(ipart s.data.toList k) * 10) = ↑(ipart s.data.toList (k + 1)) := by
  have h1 := ipart_lt hd k
  have h2 := pow18 h19
  have h3 : dg s.data.toList k = 0 := by
    have h' : ¬ k < s.data.toList.length := by simpa using h
    simp [dg, List.getD, List.getElem?_eq_none (Nat.le_of_not_lt h')]
  rw [u64w, ipart, h3]
  omega

set_option maxHeartbeats 1000000 in
theorem integerPart_any (s : ByteArray) (hs : s.size ≤ 9223372036854775807) (hd : Digs s.data.toList) (e : Int) (h0 : 0 ≤ e) (h1 : e ≤ 19) (w : World) :
    Calls Yba.prog 16 #[.string s, .int .i64 e] w fun r w' => r = .returned (.int .u64 (ipart s.data.toList e.toNat)) ∧ w' = w := by
  obtain ⟨n, rfl⟩ := Int.eq_ofNat_of_zero_le h0
  rw [Int.toNat_natCast]
  go_enter Yba.func16, Yba.ntmps16
  go_wp2
  go_loop [5, 8] (fun u i => ∃ k : Nat, k ≤ n ∧ i = .int .i64 k ∧ u = .int .u64 (ipart s.data.toList k)) (fun _ i => n - (intOf i).toNat)
  case atStart => exact ⟨0, Nat.zero_le _, rfl, rfl⟩
  case round =>
    obtain ⟨k, hk, rfl, rfl⟩ := hrel
    by_cases hlt : k < n
    · go_wp2
      · go_round
        case rel => exact ⟨k + 1, by omega, by go_num, by rw [ip_yes hd k (by assumption) (by omega)]⟩
        case measure => simp [intOf]; omega
      · go_round
        case rel => exact ⟨k + 1, by omega, by go_num, by rw [ip_no hd k (by assumption) (by omega)]⟩
        case measure => simp [intOf]; omega
    · go_wp2
      go_ret
      obtain rfl : k = n := by omega
      exact ⟨rfl, rfl⟩
end Go.Proofs.Ybulkclsa
