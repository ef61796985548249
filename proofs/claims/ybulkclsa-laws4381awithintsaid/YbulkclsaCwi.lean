import Derived.Test.YbulkclsaIp
namespace Go.Proofs.Ybulkclsa
open Go.RowKit

def cwi (dn : Int) (ds : List UInt8) (E u : Nat) : Int :=
  if dn = E then (if ipart ds E = u then Lib.compareInt ds.length E else Lib.compareInt (ipart ds E) u) else Lib.compareInt dn E

theorem div_pos_of {u k : Nat} (h : 10 ^ k ≤ u) : 0 < u / 10 ^ k := Nat.div_pos h (Nat.pow_pos (by decide))
theorem div_zero_of {u k : Nat} (h : u < 10 ^ k) : u / 10 ^ k = 0 := Nat.div_eq_of_lt h
theorem div_succ (u k : Nat) : u / 10 ^ k / 10 = u / 10 ^ (k + 1) := by rw [Nat.div_div_eq_div_mul, Nat.pow_succ]

set_option maxHeartbeats 2000000 in
theorem compareWithInt_any (w : World) (b0 b1 : Nat) (dneg : Bool) (dn : Int) (ds : ByteArray) (ineg : Bool) (n : Int) (is : ByteArray)
    (hd : IsVal w b0 4 dneg dn ds) (hi : IsVal w b1 1 ineg n is) (hs : ds.size ≤ 9223372036854775807) (hD : Digs ds.data.toList)
    (E u : Nat) (hE : 1 ≤ E) (hE19 : E ≤ 19) (hlo : E = 1 ∨ 10 ^ (E - 1) ≤ u) (hhi : u < 10 ^ E) (hu : (n.natAbs : Int) = u) (hu63 : u ≤ 9223372036854775808) :
    Calls Yba.prog 13 #[.pointer (some ⟨b0, 0, none⟩), .pointer (some ⟨b1, 0, none⟩)] w fun e w' => e = .returned (.int .i64 (cwi dn ds.data.toList E u)) ∧ w' = w := by
  obtain ⟨c0, c1, c2, c3⟩ := hd
  obtain ⟨d0, d1, d2, d3⟩ := hi
  have HLO : Hid (E = 1 ∨ 10 ^ (E - 1) ≤ u) := hlo
  have HHI : Hid (u < 10 ^ E) := hhi
  clear hlo hhi
  obtain ⟨hdiv, hcw1, hcw2, hcw3⟩ : Hid ((dn ≠ E → cwi dn ds.data.toList E u = Lib.compareInt dn E)) ∧ Hid (dn = E → ipart ds.data.toList E ≠ u → cwi dn ds.data.toList E u = Lib.compareInt (ipart ds.data.toList E) u) ∧
      Hid (dn = E → ipart ds.data.toList E = u → cwi dn ds.data.toList E u = Lib.compareInt ds.size E) ∧ True := by
    refine ⟨fun h => ?_, fun h h' => ?_, fun h h' => ?_, trivial⟩
    · unfold cwi; rw [if_neg h]
    · unfold cwi; rw [if_pos h, if_neg h']
    · unfold cwi; rw [if_pos h, if_pos h']; simp
  by_cases hn : n < 0
  · have hw : IntKind.u64.wrap (-IntKind.u64.wrap n) = (u : Int) := by rw [u64w, u64w]; omega
    clear hu
    go_enter Yba.func13, Yba.ntmps13
    go_wp2_with fail
    go_loop [6, 7] (fun e r => ∃ k : Nat, 1 ≤ k ∧ k ≤ E ∧ e = .int .i64 k ∧ r = .int .u64 ((u / 10 ^ k : Nat) : Int)) (fun e _ => E - (intOf e).toNat)
    case atStart => exact ⟨1, Nat.le_refl _, hE, rfl, by simp⟩
    case round =>
      obtain ⟨k, hk1, hk2, rfl, rfl⟩ := hrel
      by_cases hlt : k < E
      · have hp : 0 < u / 10 ^ k := div_pos_of (by rcases HLO.out with h | h; omega; exact Nat.le_trans (Nat.pow_le_pow_right (by decide) (by omega)) h)
        have hq : u / 10 ^ k ≤ u := Nat.div_le_self _ _
        have HH : Hid (u / 10 ^ (k + 1) = u / 10 ^ k / 10) := (div_succ u k).symm
        generalize u / 10 ^ k = q at *
        go_wp2_with fail
        go_round
        case rel => exact ⟨k + 1, by omega, by omega, by go_num, by rw [HH.out]; go_num⟩
        case measure => simp [intOf]; omega
      · have hp : u / 10 ^ k = 0 := div_zero_of (by obtain rfl : k = E := by omega
                                                    exact HHI.out)
        obtain rfl : k = E := by omega
        rw [hp]
        clear hlt hk2 hp
        by_cases hdn : dn = k
        · subst hdn
          by_cases hip : ipart ds.data.toList k = u
          · have HR := hcw2.out rfl hip
            have HR' : Hid _ := HR
            have h0 : Lib.compareInt (ipart ds.data.toList k) u = 0 := by rw [hip]; simp [Lib.compareInt]
            clear HR hdiv hcw1 hcw2 hip
            go_wp2_with (first | (go_at_call 16; refine (integerPart_any _ hs hD _ (by omega) (by omega) _).mono ?_; rintro e w' ⟨rfl, rfl⟩; rw [Int.toNat_natCast]) | (go_at_call 18; refine (cmp_u64 _ _ _).mono ?_; rintro e w' ⟨rfl, rfl⟩) | (go_at_call 14; refine (cmp_int64 _ _ _).mono ?_; rintro e w' ⟨rfl, rfl⟩))
            go_ret
            exact ⟨by rw [HR'.out]; rfl, rfl⟩
          · have HR := hcw1.out rfl hip
            have HR' : Hid _ := HR
            have h0 : (Lib.compareInt (ipart ds.data.toList k) u != 0) = true := by simp only [Lib.compareInt]; (repeat' split) <;> first | rfl | (exfalso; omega)
            clear HR hdiv hcw1 hcw2 hip
            go_wp2_with (first | (go_at_call 16; refine (integerPart_any _ hs hD _ (by omega) (by omega) _).mono ?_; rintro e w' ⟨rfl, rfl⟩; rw [Int.toNat_natCast]) | (go_at_call 18; refine (cmp_u64 _ _ _).mono ?_; rintro e w' ⟨rfl, rfl⟩) | (go_at_call 14; refine (cmp_int64 _ _ _).mono ?_; rintro e w' ⟨rfl, rfl⟩))
            go_ret
            exact ⟨by rw [HR'.out]; rfl, rfl⟩
        · have HR := hdiv.out hdn
          have HR' : Hid _ := HR
          have h0 : (dn != k) = true := by simpa using hdn
          clear HR hdiv hcw1 hcw2 hdn
          go_wp2_with (go_at_call 14; refine (cmp_int64 _ _ _).mono ?_; rintro e w' ⟨rfl, rfl⟩)
          go_ret
          exact ⟨by rw [HR'.out]; rfl, rfl⟩
  · have hw : IntKind.u64.wrap n = (u : Int) := by rw [u64w]; omega
    clear hu
    go_enter Yba.func13, Yba.ntmps13
    go_wp2_with fail
    go_loop [6, 7] (fun e r => ∃ k : Nat, 1 ≤ k ∧ k ≤ E ∧ e = .int .i64 k ∧ r = .int .u64 ((u / 10 ^ k : Nat) : Int)) (fun e _ => E - (intOf e).toNat)
    case atStart => exact ⟨1, Nat.le_refl _, hE, rfl, by simp⟩
    case round =>
      obtain ⟨k, hk1, hk2, rfl, rfl⟩ := hrel
      by_cases hlt : k < E
      · have hp : 0 < u / 10 ^ k := div_pos_of (by rcases HLO.out with h | h; omega; exact Nat.le_trans (Nat.pow_le_pow_right (by decide) (by omega)) h)
        have hq : u / 10 ^ k ≤ u := Nat.div_le_self _ _
        have HH : Hid (u / 10 ^ (k + 1) = u / 10 ^ k / 10) := (div_succ u k).symm
        generalize u / 10 ^ k = q at *
        go_wp2_with fail
        go_round
        case rel => exact ⟨k + 1, by omega, by omega, by go_num, by rw [HH.out]; go_num⟩
        case measure => simp [intOf]; omega
      · have hp : u / 10 ^ k = 0 := div_zero_of (by obtain rfl : k = E := by omega
                                                    exact HHI.out)
        obtain rfl : k = E := by omega
        rw [hp]
        clear hlt hk2 hp
        by_cases hdn : dn = k
        · subst hdn
          by_cases hip : ipart ds.data.toList k = u
          · have HR := hcw2.out rfl hip
            have HR' : Hid _ := HR
            have h0 : Lib.compareInt (ipart ds.data.toList k) u = 0 := by rw [hip]; simp [Lib.compareInt]
            clear HR hdiv hcw1 hcw2 hip
            go_wp2_with (first | (go_at_call 16; refine (integerPart_any _ hs hD _ (by omega) (by omega) _).mono ?_; rintro e w' ⟨rfl, rfl⟩; rw [Int.toNat_natCast]) | (go_at_call 18; refine (cmp_u64 _ _ _).mono ?_; rintro e w' ⟨rfl, rfl⟩) | (go_at_call 14; refine (cmp_int64 _ _ _).mono ?_; rintro e w' ⟨rfl, rfl⟩))
            go_ret
            exact ⟨by rw [HR'.out]; rfl, rfl⟩
          · have HR := hcw1.out rfl hip
            have HR' : Hid _ := HR
            have h0 : (Lib.compareInt (ipart ds.data.toList k) u != 0) = true := by simp only [Lib.compareInt]; (repeat' split) <;> first | rfl | (exfalso; omega)
            clear HR hdiv hcw1 hcw2 hip
            go_wp2_with (first | (go_at_call 16; refine (integerPart_any _ hs hD _ (by omega) (by omega) _).mono ?_; rintro e w' ⟨rfl, rfl⟩; rw [Int.toNat_natCast]) | (go_at_call 18; refine (cmp_u64 _ _ _).mono ?_; rintro e w' ⟨rfl, rfl⟩) | (go_at_call 14; refine (cmp_int64 _ _ _).mono ?_; rintro e w' ⟨rfl, rfl⟩))
            go_ret
            exact ⟨by rw [HR'.out]; rfl, rfl⟩
        · have HR := hdiv.out hdn
          have HR' : Hid _ := HR
          have h0 : (dn != k) = true := by simpa using hdn
          clear HR hdiv hcw1 hcw2 hdn
          go_wp2_with (go_at_call 14; refine (cmp_int64 _ _ _).mono ?_; rintro e w' ⟨rfl, rfl⟩)
          go_ret
          exact ⟨by rw [HR'.out]; rfl, rfl⟩
end Go.Proofs.Ybulkclsa
