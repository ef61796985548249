import Derived.Test.YbulkclsoTime
namespace Go.Proofs.Ybulkclso
open Go.RowKit

theorem mono2_of {x y : Int} (h0 : 0 ≤ x) (h1 : x < 1000000000) (g0 : 0 ≤ y) (g1 : y < 1000000000) : bits BinOp.and IntKind.u64 (bits BinOp.and IntKind.u64 x y) 9223372036854775808 = 0 := by
  rw [u64_and x y h0 (by omega) g0 (by omega)]
  have : x.toNat &&& y.toNat ≤ x.toNat := Nat.and_le_left
  exact mono_of (by omega) (by omega)

structure Tp (t y x : Int) : Prop where
  eq : t = 1000000000 * y + x
  lo : 0 ≤ x
  hi : x < 1000000000

theorem tp (t : Int) : Tp t (t / 1000000000) (t % 1000000000) := ⟨(Int.mul_ediv_add_emod t 1000000000).symm, by omega, by omega⟩

set_option maxHeartbeats 2000000 in
theorem before_any (a b : Int) (w : World) :
    Calls Yba.prog 20 #[tm a, tm b] w fun e w' => e = .returned (.bool (decide (a < b))) ∧ Below w.heap.size w w' := by
  unfold tm
  have ta := tp a
  have tb := tp b
  generalize a % 1000000000 = x at *
  generalize a / 1000000000 = y at *
  generalize b % 1000000000 = x' at *
  generalize b / 1000000000 = y' at *
  obtain ⟨ea, hx0, hx1⟩ := ta
  obtain ⟨eb, hz0, hz1⟩ := tb
  have hm := mono2_of hx0 hx1 hz0 hz1
  by_cases h1 : y < y'
  · have HR : Hid (decide (a < b) = true) := by show _ = _; rw [decide_eq_true_iff]; omega
    clear ea eb
    go_enter Yba.func20, Yba.ntmps20
    go_wp2_with fail
    refine (sec_any _ _ x y hx0 hx1 (by simp [World.cell?_alloc_past]) (by simp [World.cell?_alloc_past])).mono ?_
    rintro e w' ⟨rfl, rfl⟩
    go_wp2_with fail
    refine (sec_any _ _ x' y' hz0 hz1 (by simp) (by simp)).mono ?_
    rintro e w' ⟨rfl, rfl⟩
    go_wp2_with fail
    go_ret
    exact ⟨by rw [HR.out]; first | rfl | (simp; omega), ((Below.refl _ _).alloc (Nat.le_refl _) _).alloc (by simp) _⟩
  · by_cases h2 : y = y'
    · subst h2
      by_cases h3 : x < x'
      · have HR : Hid (decide (a < b) = true) := by show _ = _; rw [decide_eq_true_iff]; omega
        clear ea eb
        go_enter Yba.func20, Yba.ntmps20
        go_wp2_with fail
        refine (sec_any _ _ x y hx0 hx1 (by simp [World.cell?_alloc_past]) (by simp [World.cell?_alloc_past])).mono ?_
        rintro e w' ⟨rfl, rfl⟩
        go_wp2_with fail
        refine (sec_any _ _ x' y hz0 hz1 (by simp) (by simp)).mono ?_
        rintro e w' ⟨rfl, rfl⟩
        go_wp2_with fail
        refine (nsec_any _ _ x hx0 hx1 (by simp [World.cell?_alloc_past])).mono ?_
        rintro e w' ⟨rfl, rfl⟩
        go_wp2_with fail
        refine (nsec_any _ _ x' hz0 hz1 (by simp)).mono ?_
        rintro e w' ⟨rfl, rfl⟩
        go_wp2_with fail
        go_ret
        exact ⟨by rw [HR.out]; first | rfl | (simp; omega), ((Below.refl _ _).alloc (Nat.le_refl _) _).alloc (by simp) _⟩
      · have HR : Hid (decide (a < b) = false) := by show _ = _; rw [decide_eq_false_iff_not]; omega
        clear ea eb
        go_enter Yba.func20, Yba.ntmps20
        go_wp2_with fail
        refine (sec_any _ _ x y hx0 hx1 (by simp [World.cell?_alloc_past]) (by simp [World.cell?_alloc_past])).mono ?_
        rintro e w' ⟨rfl, rfl⟩
        go_wp2_with fail
        refine (sec_any _ _ x' y hz0 hz1 (by simp) (by simp)).mono ?_
        rintro e w' ⟨rfl, rfl⟩
        go_wp2_with fail
        refine (nsec_any _ _ x hx0 hx1 (by simp [World.cell?_alloc_past])).mono ?_
        rintro e w' ⟨rfl, rfl⟩
        go_wp2_with fail
        refine (nsec_any _ _ x' hz0 hz1 (by simp)).mono ?_
        rintro e w' ⟨rfl, rfl⟩
        go_wp2_with fail
        go_ret
        exact ⟨by rw [HR.out]; first | rfl | (simp; omega), ((Below.refl _ _).alloc (Nat.le_refl _) _).alloc (by simp) _⟩
    · have HR : Hid (decide (a < b) = false) := by show _ = _; rw [decide_eq_false_iff_not]; omega
      have h2' : (y == y') = false := by simpa using h2
      clear ea eb h2
      go_enter Yba.func20, Yba.ntmps20
      go_wp2_with fail
      refine (sec_any _ _ x y hx0 hx1 (by simp [World.cell?_alloc_past]) (by simp [World.cell?_alloc_past])).mono ?_
      rintro e w' ⟨rfl, rfl⟩
      go_wp2_with fail
      refine (sec_any _ _ x' y' hz0 hz1 (by simp) (by simp)).mono ?_
      rintro e w' ⟨rfl, rfl⟩
      go_wp2_with fail
      go_ret
      exact ⟨by rw [HR.out]; first | rfl | (simp; omega), ((Below.refl _ _).alloc (Nat.le_refl _) _).alloc (by simp) _⟩

set_option maxHeartbeats 2000000 in
theorem after_any (a b : Int) (w : World) :
    Calls Yba.prog 27 #[tm a, tm b] w fun e w' => e = .returned (.bool (decide (b < a))) ∧ Below w.heap.size w w' := by
  unfold tm
  have ta := tp a
  have tb := tp b
  generalize a % 1000000000 = x at *
  generalize a / 1000000000 = y at *
  generalize b % 1000000000 = x' at *
  generalize b / 1000000000 = y' at *
  obtain ⟨ea, hx0, hx1⟩ := ta
  obtain ⟨eb, hz0, hz1⟩ := tb
  have hm := mono2_of hx0 hx1 hz0 hz1
  by_cases h1 : y' < y
  · have HR : Hid (decide (b < a) = true) := by show _ = _; rw [decide_eq_true_iff]; omega
    clear ea eb
    go_enter Yba.func27, Yba.ntmps27
    go_wp2_with fail
    refine (sec_any _ _ x y hx0 hx1 (by simp [World.cell?_alloc_past]) (by simp [World.cell?_alloc_past])).mono ?_
    rintro e w' ⟨rfl, rfl⟩
    go_wp2_with fail
    refine (sec_any _ _ x' y' hz0 hz1 (by simp) (by simp)).mono ?_
    rintro e w' ⟨rfl, rfl⟩
    go_wp2_with fail
    go_ret
    exact ⟨by rw [HR.out]; first | rfl | (simp; omega), ((Below.refl _ _).alloc (Nat.le_refl _) _).alloc (by simp) _⟩
  · by_cases h2 : y = y'
    · subst h2
      by_cases h3 : x' < x
      · have HR : Hid (decide (b < a) = true) := by show _ = _; rw [decide_eq_true_iff]; omega
        clear ea eb
        go_enter Yba.func27, Yba.ntmps27
        go_wp2_with fail
        refine (sec_any _ _ x y hx0 hx1 (by simp [World.cell?_alloc_past]) (by simp [World.cell?_alloc_past])).mono ?_
        rintro e w' ⟨rfl, rfl⟩
        go_wp2_with fail
        refine (sec_any _ _ x' y hz0 hz1 (by simp) (by simp)).mono ?_
        rintro e w' ⟨rfl, rfl⟩
        go_wp2_with fail
        refine (nsec_any _ _ x hx0 hx1 (by simp [World.cell?_alloc_past])).mono ?_
        rintro e w' ⟨rfl, rfl⟩
        go_wp2_with fail
        refine (nsec_any _ _ x' hz0 hz1 (by simp)).mono ?_
        rintro e w' ⟨rfl, rfl⟩
        go_wp2_with fail
        go_ret
        exact ⟨by rw [HR.out]; first | rfl | (simp; omega), ((Below.refl _ _).alloc (Nat.le_refl _) _).alloc (by simp) _⟩
      · have HR : Hid (decide (b < a) = false) := by show _ = _; rw [decide_eq_false_iff_not]; omega
        clear ea eb
        go_enter Yba.func27, Yba.ntmps27
        go_wp2_with fail
        refine (sec_any _ _ x y hx0 hx1 (by simp [World.cell?_alloc_past]) (by simp [World.cell?_alloc_past])).mono ?_
        rintro e w' ⟨rfl, rfl⟩
        go_wp2_with fail
        refine (sec_any _ _ x' y hz0 hz1 (by simp) (by simp)).mono ?_
        rintro e w' ⟨rfl, rfl⟩
        go_wp2_with fail
        refine (nsec_any _ _ x hx0 hx1 (by simp [World.cell?_alloc_past])).mono ?_
        rintro e w' ⟨rfl, rfl⟩
        go_wp2_with fail
        refine (nsec_any _ _ x' hz0 hz1 (by simp)).mono ?_
        rintro e w' ⟨rfl, rfl⟩
        go_wp2_with fail
        go_ret
        exact ⟨by rw [HR.out]; first | rfl | (simp; omega), ((Below.refl _ _).alloc (Nat.le_refl _) _).alloc (by simp) _⟩
    · have HR : Hid (decide (b < a) = false) := by show _ = _; rw [decide_eq_false_iff_not]; omega
      have h2' : (y == y') = false := by simpa using h2
      clear ea eb h2
      go_enter Yba.func27, Yba.ntmps27
      go_wp2_with fail
      refine (sec_any _ _ x y hx0 hx1 (by simp [World.cell?_alloc_past]) (by simp [World.cell?_alloc_past])).mono ?_
      rintro e w' ⟨rfl, rfl⟩
      go_wp2_with fail
      refine (sec_any _ _ x' y' hz0 hz1 (by simp) (by simp)).mono ?_
      rintro e w' ⟨rfl, rfl⟩
      go_wp2_with fail
      go_ret
      exact ⟨by rw [HR.out]; first | rfl | (simp; omega), ((Below.refl _ _).alloc (Nat.le_refl _) _).alloc (by simp) _⟩

set_option maxHeartbeats 2000000 in
theorem equal_any (a : Int) (w : World) :
    Calls Yba.prog 9 #[tm a, tm a] w fun e w' => e = .returned (.bool true) ∧ Below w.heap.size w w' := by
  unfold tm
  have ta := tp a
  generalize a % 1000000000 = x at *
  generalize a / 1000000000 = y at *
  obtain ⟨ea, hx0, hx1⟩ := ta
  have hm := mono2_of hx0 hx1 hx0 hx1
  clear ea
  go_enter Yba.func9, Yba.ntmps9
  go_wp2_with fail
  refine (sec_any _ _ x y hx0 hx1 (by simp [World.cell?_alloc_past]) (by simp [World.cell?_alloc_past])).mono ?_
  rintro e w' ⟨rfl, rfl⟩
  go_wp2_with fail
  refine (sec_any _ _ x y hx0 hx1 (by simp) (by simp)).mono ?_
  rintro e w' ⟨rfl, rfl⟩
  go_wp2_with fail
  refine (nsec_any _ _ x hx0 hx1 (by simp [World.cell?_alloc_past])).mono ?_
  rintro e w' ⟨rfl, rfl⟩
  go_wp2_with fail
  refine (nsec_any _ _ x hx0 hx1 (by simp)).mono ?_
  rintro e w' ⟨rfl, rfl⟩
  go_wp2_with fail
  go_ret
  exact ⟨rfl, ((Below.refl _ _).alloc (Nat.le_refl _) _).alloc (by simp) _⟩


set_option maxHeartbeats 2000000 in
theorem geq_any (n s d : Int) (hs1 : -9223372036854775808 ≤ s) (hs2 : s ≤ 9223372036854775807) (hd1 : -9223372036854775808 ≤ d) (hd2 : d ≤ 9223372036854775807) (hn1 : -9223372036854775808 ≤ n) (hn2 : n ≤ 9223372036854775807) (w : World) :
    Calls Yba.prog 8 #[.int .i64 n, .int .i64 s, .int .i64 d] w fun e w' => e = .returned (.bool (decide (s + d ≤ n))) ∧ w' = w := by
  go_enter Yba.func8, Yba.ntmps8
  go_wp2_with fail
  all_goals
    go_ret
    refine ⟨?_, rfl⟩
    first
      | rfl
      | (have e : decide (s + d ≤ n) = false := decide_eq_false (by omega)
         rw [e]; rfl)
      | (have e : decide (s + d ≤ n) = true := decide_eq_true (by omega)
         rw [e]; rfl)
end Go.Proofs.Ybulkclso
