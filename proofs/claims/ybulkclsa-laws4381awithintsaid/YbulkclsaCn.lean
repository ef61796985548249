import Derived.Test.YbulkclsaMdl
import Derived.Deep.DeepMust
namespace Go.Proofs.Ybulkclsa
open Go.RowKit

def sg (neg : Bool) : Int := if neg then -1 else 1
theorem signOf4 (neg : Bool) (n : Int) : signOf 4 neg n = sg neg := by simp [signOf, sg]
theorem signOf1 (neg : Bool) (n : Int) : signOf 1 neg n = Lib.compareInt n 0 := by simp [signOf]
theorem ci_self (a : Int) : Lib.compareInt a a = 0 := by simp [Lib.compareInt]
theorem ci_ne {a b : Int} (h : a ≠ b) : (Lib.compareInt a b != 0) = true := by simp only [Lib.compareInt]; (repeat' split) <;> first | rfl | (exfalso; omega)

theorem sign_dec {w : World} {b : Nat} {neg : Bool} {n : Int} {s : ByteArray} (h : IsVal w b 4 neg n s) :
    Calls Yba.prog 11 #[.pointer (some ⟨b, 0, none⟩)] w fun e w' => e = .returned (.int .i64 (sg neg)) ∧ w' = w := by
  have := sign_any w b 4 neg n s h
  rwa [signOf4] at this
theorem sign_int {w : World} {b : Nat} {neg : Bool} {n : Int} {s : ByteArray} (h : IsVal w b 1 neg n s) :
    Calls Yba.prog 11 #[.pointer (some ⟨b, 0, none⟩)] w fun e w' => e = .returned (.int .i64 (Lib.compareInt n 0)) ∧ w' = w := by
  have := sign_any w b 1 neg n s h
  rwa [signOf1] at this
theorem quiet_off {P : Program} {f : FuncId} {args : Array Value} {w : World} {v : Value} {nq k : Nat} (h : ∀ w, Calls P f args w fun e w' => e = .returned v ∧ w' = w) :
    Calls P f args (w.drewN (nq + k)) fun e w'' => e = .returned v ∧ ∃ n, w'' = w.drewN (nq + n) := (h _).mono fun _ _ ⟨h1, h2⟩ => ⟨h1, k, h2⟩
theorem sg_neg (nx : Bool) (h : nx = true) : sg nx < 0 := by subst h; decide

set_option maxHeartbeats 2000000 in
theorem cn_dd (w : World) (bx bz : Nat) (nx nz : Bool) (ex ez : Int) (dx dz : ByteArray) (hx : IsVal w bx 4 nx ex dx) (hz : IsVal w bz 4 nz ez dz) :
    Calls Yba.prog 7 #[.pointer (some ⟨bx, 0, none⟩), .pointer (some ⟨bz, 0, none⟩)] w
      fun e w' => e = .returned (.int .i64 (mdl (sg nx) ex dx.data.toList (sg nz) ez dz.data.toList)) ∧ ∃ n, w' = w.drewN n := by
  have ⟨c0, c1, c2, c3⟩ := hx
  have ⟨d0, d1, d2, d3⟩ := hz
  by_cases hs : nx = nz
  · subst hs
    have hc := ci_self (sg nx)
    by_cases he : ex = ez
    · subst he
      have hM : mdl (sg nx) ex dx.data.toList (sg nx) ex dz.data.toList = if sg nx < 0 then - Lib.compareBytes dx.data.toList dz.data.toList else Lib.compareBytes dx.data.toList dz.data.toList := by cases nx <;> simp [mdl, sg, mag]
      have hce := ci_self ex
      have hT := cb_three dx.data.toList dz.data.toList
      have hT1 : -1 ≤ Lib.compareBytes dx.data.toList dz.data.toList := by omega
      have hT2 : Lib.compareBytes dx.data.toList dz.data.toList ≤ 1 := by omega
      have HM : Hid _ := hM
      clear hM hT
      by_cases hn : sg nx < 0
      all_goals
        go_enter Yba.func7, Yba.ntmps7
        go_wp2_with fail
        refine (sign_dec hx).mono ?_
        rintro e w' ⟨rfl, rfl⟩
        go_wp2_with fail
        refine (sign_dec hz).mono ?_
        rintro e w' ⟨rfl, rfl⟩
        go_wp2_with (go_at_call 12; refine (cmp_int _ _ _).mono ?_; rintro e w' ⟨rfl, rfl⟩)
        go_quiet ((go_at_call 14; exact Calls.quiet_of_same (cmp_int64 _ _ _)))
        go_wp2_with fail
        go_quiet ((go_at_call 15; exact quiet_off (strings_Compare _ _)))
        go_wp2_with fail
        go_ret
        exact ⟨by rw [HM.out]; simp [hn] <;> (intro h; omega), _, rfl⟩
    · have hM : mdl (sg nx) ex dx.data.toList (sg nx) ez dz.data.toList = if sg nx < 0 then - Lib.compareInt ex ez else Lib.compareInt ex ez := by cases nx <;> simp [mdl, sg, mag, he]
      have hce := ci_ne he
      have hce' : (Lib.compareInt ex ez == 0) = false := by simpa using hce
      have hT := ci_three ex ez
      have hT1 : -1 ≤ Lib.compareInt ex ez := by omega
      have hT2 : Lib.compareInt ex ez ≤ 1 := by omega
      have HM : Hid _ := hM
      clear hM hT he
      by_cases hn : sg nx < 0
      all_goals
        go_enter Yba.func7, Yba.ntmps7
        go_wp2_with fail
        refine (sign_dec hx).mono ?_
        rintro e w' ⟨rfl, rfl⟩
        go_wp2_with fail
        refine (sign_dec hz).mono ?_
        rintro e w' ⟨rfl, rfl⟩
        go_wp2_with (go_at_call 12; refine (cmp_int _ _ _).mono ?_; rintro e w' ⟨rfl, rfl⟩)
        go_quiet ((go_at_call 14; exact Calls.quiet_of_same (cmp_int64 _ _ _)))
        go_wp2_with fail
        go_ret
        exact ⟨by rw [HM.out]; simp [hn] <;> (intro h; omega), _, rfl⟩
  · have hss : sg nx ≠ sg nz := by intro h; apply hs; revert h; cases nx <;> cases nz <;> simp [sg]
    have hM : mdl (sg nx) ex dx.data.toList (sg nz) ez dz.data.toList = Lib.compareInt (sg nx) (sg nz) := by simp [mdl, hss]
    have hce := ci_ne hss
    have HM : Hid _ := hM
    clear hM hss hs
    go_enter Yba.func7, Yba.ntmps7
    go_wp2_with fail
    refine (sign_dec hx).mono ?_
    rintro e w' ⟨rfl, rfl⟩
    go_wp2_with fail
    refine (sign_dec hz).mono ?_
    rintro e w' ⟨rfl, rfl⟩
    go_wp2_with (go_at_call 12; refine (cmp_int _ _ _).mono ?_; rintro e w' ⟨rfl, rfl⟩)
    go_ret
    exact ⟨by rw [HM.out]; rfl, 0, rfl⟩

/-- what compareNumbers answers for an int x of magnitude u, E digits, and a decimal z -/
def cnID (n : Int) (E u : Nat) (nz : Bool) (ez : Int) (dz : List UInt8) : Int :=
  if Lib.compareInt n 0 = sg nz then (if sg nz < 0 then cwi ez dz E u else - cwi ez dz E u) else Lib.compareInt (Lib.compareInt n 0) (sg nz)
/-- .. and for the two the other way round -/
def cnDI (n : Int) (E u : Nat) (nz : Bool) (ez : Int) (dz : List UInt8) : Int :=
  if Lib.compareInt n 0 = sg nz then (if sg nz < 0 then - cwi ez dz E u else cwi ez dz E u) else Lib.compareInt (sg nz) (Lib.compareInt n 0)

theorem cwi_three (dn : Int) (ds : List UInt8) (E u : Nat) : -1 ≤ cwi dn ds E u ∧ cwi dn ds E u ≤ 1 := by
  unfold cwi
  split
  · split
    · have := ci_three ds.length E; omega
    · have := ci_three (ipart ds E) u; omega
  · have := ci_three dn E; omega

set_option maxHeartbeats 2000000 in
theorem cn_id (w : World) (bx bz : Nat) (nx nz : Bool) (n ez : Int) (dx dz : ByteArray) (hx : IsVal w bx 1 nx n dx) (hz : IsVal w bz 4 nz ez dz) (hs : dz.size ≤ 9223372036854775807) (hD : Digs dz.data.toList)
    (E u : Nat) (hE : 1 ≤ E) (hE19 : E ≤ 19) (hlo : E = 1 ∨ 10 ^ (E - 1) ≤ u) (hhi : u < 10 ^ E) (hu : (n.natAbs : Int) = u) (hu63 : u ≤ 9223372036854775808) :
    Calls Yba.prog 7 #[.pointer (some ⟨bx, 0, none⟩), .pointer (some ⟨bz, 0, none⟩)] w
      fun e w' => e = .returned (.int .i64 (cnID n E u nz ez dz.data.toList)) ∧ w' = w := by
  have ⟨c0, c1, c2, c3⟩ := hx
  have ⟨d0, d1, d2, d3⟩ := hz
  have KC := fun w (hz : IsVal w bz 4 nz ez dz) (hx : IsVal w bx 1 nx n dx) => compareWithInt_any w bz bx nz ez dz nx n dx hz hx hs hD E u hE hE19 hlo hhi hu hu63
  have ⟨hT1, hT2⟩ := cwi_three ez dz.data.toList E u
  clear hE hE19 hlo hhi hu hu63 hs
  by_cases hss : Lib.compareInt n 0 = sg nz
  · have hM : cnID n E u nz ez dz.data.toList = if sg nz < 0 then cwi ez dz.data.toList E u else - cwi ez dz.data.toList E u := by simp [cnID, hss]
    have hc := ci_self (sg nz)
    have HM : Hid _ := hM
    have HSS : Hid _ := hss
    clear hM hss
    by_cases hn : sg nz < 0
    all_goals
      go_enter Yba.func7, Yba.ntmps7
      go_wp2_with fail
      refine (sign_int hx).mono ?_
      rintro e w' ⟨rfl, rfl⟩
      rw [HSS.out]
      go_wp2_with fail
      refine (sign_dec hz).mono ?_
      rintro e w' ⟨rfl, rfl⟩
      go_wp2_with (go_at_call 12; refine (cmp_int _ _ _).mono ?_; rintro e w' ⟨rfl, rfl⟩)
      refine (KC _ hz hx).mono ?_
      rintro e w' ⟨rfl, rfl⟩
      go_wp2_with fail
      go_ret
      exact ⟨by rw [HM.out]; simp [hn] <;> (intro h; omega), rfl⟩
  · have hM : cnID n E u nz ez dz.data.toList = Lib.compareInt (Lib.compareInt n 0) (sg nz) := by simp [cnID, hss]
    have hce := ci_ne hss
    have HM : Hid _ := hM
    clear hM hss
    go_enter Yba.func7, Yba.ntmps7
    go_wp2_with fail
    refine (sign_int hx).mono ?_
    rintro e w' ⟨rfl, rfl⟩
    go_wp2_with fail
    refine (sign_dec hz).mono ?_
    rintro e w' ⟨rfl, rfl⟩
    go_wp2_with (go_at_call 12; refine (cmp_int _ _ _).mono ?_; rintro e w' ⟨rfl, rfl⟩)
    go_ret
    exact ⟨by rw [HM.out]; rfl, rfl⟩

set_option maxHeartbeats 2000000 in
theorem cn_di (w : World) (bx bz : Nat) (nx nz : Bool) (n ez : Int) (dx dz : ByteArray) (hx : IsVal w bx 1 nx n dx) (hz : IsVal w bz 4 nz ez dz) (hs : dz.size ≤ 9223372036854775807) (hD : Digs dz.data.toList)
    (E u : Nat) (hE : 1 ≤ E) (hE19 : E ≤ 19) (hlo : E = 1 ∨ 10 ^ (E - 1) ≤ u) (hhi : u < 10 ^ E) (hu : (n.natAbs : Int) = u) (hu63 : u ≤ 9223372036854775808) :
    Calls Yba.prog 7 #[.pointer (some ⟨bz, 0, none⟩), .pointer (some ⟨bx, 0, none⟩)] w
      fun e w' => e = .returned (.int .i64 (cnDI n E u nz ez dz.data.toList)) ∧ w' = w := by
  have ⟨c0, c1, c2, c3⟩ := hx
  have ⟨d0, d1, d2, d3⟩ := hz
  have KC := fun w (hz : IsVal w bz 4 nz ez dz) (hx : IsVal w bx 1 nx n dx) => compareWithInt_any w bz bx nz ez dz nx n dx hz hx hs hD E u hE hE19 hlo hhi hu hu63
  have ⟨hT1, hT2⟩ := cwi_three ez dz.data.toList E u
  clear hE hE19 hlo hhi hu hu63 hs
  by_cases hss : Lib.compareInt n 0 = sg nz
  · have hM : cnDI n E u nz ez dz.data.toList = if sg nz < 0 then - cwi ez dz.data.toList E u else cwi ez dz.data.toList E u := by simp [cnDI, hss]
    have hc := ci_self (sg nz)
    have HM : Hid _ := hM
    have HSS : Hid _ := hss
    clear hM hss
    by_cases hn : sg nz < 0
    all_goals
      go_enter Yba.func7, Yba.ntmps7
      go_wp2_with fail
      refine (sign_dec hz).mono ?_
      rintro e w' ⟨rfl, rfl⟩
      go_wp2_with fail
      refine (sign_int hx).mono ?_
      rintro e w' ⟨rfl, rfl⟩
      rw [HSS.out]
      go_wp2_with (go_at_call 12; refine (cmp_int _ _ _).mono ?_; rintro e w' ⟨rfl, rfl⟩)
      refine (KC _ hz hx).mono ?_
      rintro e w' ⟨rfl, rfl⟩
      go_wp2_with fail
      go_ret
      exact ⟨by rw [HM.out]; simp [hn] <;> (intro h; omega), rfl⟩
  · have hM : cnDI n E u nz ez dz.data.toList = Lib.compareInt (sg nz) (Lib.compareInt n 0) := by simp [cnDI, hss]
    have hce := ci_ne (Ne.symm hss)
    have HM : Hid _ := hM
    clear hM hss
    go_enter Yba.func7, Yba.ntmps7
    go_wp2_with fail
    refine (sign_dec hz).mono ?_
    rintro e w' ⟨rfl, rfl⟩
    go_wp2_with fail
    refine (sign_int hx).mono ?_
    rintro e w' ⟨rfl, rfl⟩
    go_wp2_with (go_at_call 12; refine (cmp_int _ _ _).mono ?_; rintro e w' ⟨rfl, rfl⟩)
    go_ret
    exact ⟨by rw [HM.out]; rfl, rfl⟩
end Go.Proofs.Ybulkclsa
