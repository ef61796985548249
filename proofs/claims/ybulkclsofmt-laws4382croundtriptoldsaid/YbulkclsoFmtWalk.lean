import Derived.Test.YbulkclsoFmtDec
namespace Go.Proofs.YbulkclsoFmt
open Go.RowKit

set_option maxHeartbeats 2000000 in
theorem walk_enc (c0 pg : Value) (last h k0 k1 k2 k3 x m : Nat) (hh : h ≤ 32) (hx : x < 2 ^ h * 2 ^ h) (w : World)
    (b0 : k0 < 18446744073709551616) (b1 : k1 < 18446744073709551616) (b2 : k2 < 18446744073709551616) (b3 : k3 < 18446744073709551616)
    (hm : Fei.iter (Fei.E (gN h) h [k0, k1, k2, k3]) (m + 1) x ≤ last) (hj : ∀ j, j < m → last < Fei.iter (Fei.E (gN h) h [k0, k1, k2, k3]) (j + 1) x) :
    Calls Ybaf.prog 5 #[pl c0 (.int .u64 last) pg h k0 k1 k2 k3, .int .u64 x, .func (.func 6) #[pl c0 (.int .u64 last) pg h k0 k1 k2 k3] #[]] w fun e w' =>
      e = .returned (.int .u64 (Fei.iter (Fei.E (gN h) h [k0, k1, k2, k3]) (m + 1) x)) ∧ Below w.heap.size w w' := by
  have HL : ∀ n, Fei.iter (Fei.E (gN h) h [k0, k1, k2, k3]) n x < 2 ^ h * 2 ^ h := Fei.iter_lt (fun y hy => Fei.E_lt (gN_lt h) _ hy) hx
  have KS := fun (n : Nat) (W : World) => enc_any c0 (.int .u64 last) pg h k0 k1 k2 k3 (Fei.iter (Fei.E (gN h) h [k0, k1, k2, k3]) n x) hh (HL n) W b0 b1 b2 b3
  have hS : ∀ n, Fei.E (gN h) h [k0, k1, k2, k3] (Fei.iter (Fei.E (gN h) h [k0, k1, k2, k3]) n x) = Fei.iter (Fei.E (gN h) h [k0, k1, k2, k3]) (n + 1) x := fun _ => rfl
  have KS' : ∀ (n : Nat) (W : World), Calls Ybaf.prog 6 #[pl c0 (.int .u64 last) pg h k0 k1 k2 k3, .int .u64 (Fei.iter (Fei.E (gN h) h [k0, k1, k2, k3]) n x)] W fun e w' => e = .returned (.int .u64 (Fei.iter (Fei.E (gN h) h [k0, k1, k2, k3]) (n + 1) x)) ∧ Below W.heap.size W w' := KS
  have H0 : Hid (Fei.iter (Fei.E (gN h) h [k0, k1, k2, k3]) 0 x = x) := rfl
  clear KS hS HL hx hh b0 b1 b2 b3
  have HJ : Hid _ := hj
  have HM : Hid _ := hm
  clear hj hm
  rw [← H0.out]
  have H0' : Hid (Fei.iter (Fei.E (gN h) h [k0, k1, k2, k3]) 0 x = x) := rfl
  clear H0
  generalize Fei.E (gN h) h [k0, k1, k2, k3] = F at *
  rw [H0'.out]
  have KS0 := KS' 0
  rw [H0'.out] at KS0
  unfold pl at *
  go_enter Ybaf.func5, Ybaf.ntmps5
  go_wp2_with fail
  refine (KS0 _).mono ?_
  rintro e wa ⟨rfl, hba⟩
  have ha : wa.cell? ⟨w.heap.size, 1, none⟩ = some (.int .u64 last) := by rw [hba.cell (p := ⟨w.heap.size, 1, none⟩) (by simp)]; simp
  have hbw : Below w.heap.size w wa := ((Below.refl _ _).alloc (Nat.le_refl _) _).trans (hba.mono (by simp))
  clear hba
  go_wp2_with fail
  go_loopg [1] m (fun k sx wr => ∃ j : Nat, j + k = m ∧ sx = .int .u64 (Fei.iter F (j + 1) x) ∧ wr.cell? ⟨w.heap.size, 1, none⟩ = some (.int .u64 last) ∧ Below w.heap.size w wr)
  case atStart => exact ⟨0, by omega, rfl, ha, hbw⟩
  case round =>
    obtain ⟨j, hjk, rfl, hr, hbr⟩ := hrel
    clear ha hbw
    by_cases hlt : j < m
    · have h1 : (last : Int) < (Fei.iter F (j + 1) x : Nat) := by have := HJ.out j hlt; omega
      go_wp2_with fail
      refine (KS' (j + 1) _).mono ?_
      rintro e wb ⟨rfl, hbb⟩
      have hr' : wb.cell? ⟨w.heap.size, 1, none⟩ = some (.int .u64 last) := (hbb.cell (World.block_lt_of_cell? _ _ hr)).trans hr
      have hbr' : Below w.heap.size w wb := hbr.trans (hbb.mono hbr.size)
      clear hr hbr hbb
      go_wp2_with fail
      go_roundg (gk - 1)
      case measure => omega
      case rel => exact ⟨j + 1, by omega, rfl, hr', hbr'⟩
    · obtain rfl : j = m := by omega
      have h1 : ¬ (last : Int) < (Fei.iter F (j + 1) x : Nat) := by have := HM.out; omega
      go_wp2_with fail
      go_ret
      exact ⟨rfl, hbr⟩

set_option maxHeartbeats 2000000 in
theorem walk_dec (c0 pg : Value) (last h k0 k1 k2 k3 x m : Nat) (hh : h ≤ 32) (hx : x < 2 ^ h * 2 ^ h) (w : World)
    (b0 : k0 < 18446744073709551616) (b1 : k1 < 18446744073709551616) (b2 : k2 < 18446744073709551616) (b3 : k3 < 18446744073709551616)
    (hm : Fei.iter (Fei.D (gN h) h [k0, k1, k2, k3]) (m + 1) x ≤ last) (hj : ∀ j, j < m → last < Fei.iter (Fei.D (gN h) h [k0, k1, k2, k3]) (j + 1) x) :
    Calls Ybaf.prog 5 #[pl c0 (.int .u64 last) pg h k0 k1 k2 k3, .int .u64 x, .func (.func 7) #[pl c0 (.int .u64 last) pg h k0 k1 k2 k3] #[]] w fun e w' =>
      e = .returned (.int .u64 (Fei.iter (Fei.D (gN h) h [k0, k1, k2, k3]) (m + 1) x)) ∧ Below w.heap.size w w' := by
  have HL : ∀ n, Fei.iter (Fei.D (gN h) h [k0, k1, k2, k3]) n x < 2 ^ h * 2 ^ h := Fei.iter_lt (fun y hy => Fei.D_lt (gN_lt h) _ hy) hx
  have KS := fun (n : Nat) (W : World) => dec_any c0 (.int .u64 last) pg h k0 k1 k2 k3 (Fei.iter (Fei.D (gN h) h [k0, k1, k2, k3]) n x) hh (HL n) W b0 b1 b2 b3
  have hS : ∀ n, Fei.D (gN h) h [k0, k1, k2, k3] (Fei.iter (Fei.D (gN h) h [k0, k1, k2, k3]) n x) = Fei.iter (Fei.D (gN h) h [k0, k1, k2, k3]) (n + 1) x := fun _ => rfl
  have KS' : ∀ (n : Nat) (W : World), Calls Ybaf.prog 7 #[pl c0 (.int .u64 last) pg h k0 k1 k2 k3, .int .u64 (Fei.iter (Fei.D (gN h) h [k0, k1, k2, k3]) n x)] W fun e w' => e = .returned (.int .u64 (Fei.iter (Fei.D (gN h) h [k0, k1, k2, k3]) (n + 1) x)) ∧ Below W.heap.size W w' := KS
  have H0 : Hid (Fei.iter (Fei.D (gN h) h [k0, k1, k2, k3]) 0 x = x) := rfl
  clear KS hS HL hx hh b0 b1 b2 b3
  have HJ : Hid _ := hj
  have HM : Hid _ := hm
  clear hj hm
  rw [← H0.out]
  have H0' : Hid (Fei.iter (Fei.D (gN h) h [k0, k1, k2, k3]) 0 x = x) := rfl
  clear H0
  generalize Fei.D (gN h) h [k0, k1, k2, k3] = F at *
  rw [H0'.out]
  have KS0 := KS' 0
  rw [H0'.out] at KS0
  unfold pl at *
  go_enter Ybaf.func5, Ybaf.ntmps5
  go_wp2_with fail
  refine (KS0 _).mono ?_
  rintro e wa ⟨rfl, hba⟩
  have ha : wa.cell? ⟨w.heap.size, 1, none⟩ = some (.int .u64 last) := by rw [hba.cell (p := ⟨w.heap.size, 1, none⟩) (by simp)]; simp
  have hbw : Below w.heap.size w wa := ((Below.refl _ _).alloc (Nat.le_refl _) _).trans (hba.mono (by simp))
  clear hba
  go_wp2_with fail
  go_loopg [1] m (fun k sx wr => ∃ j : Nat, j + k = m ∧ sx = .int .u64 (Fei.iter F (j + 1) x) ∧ wr.cell? ⟨w.heap.size, 1, none⟩ = some (.int .u64 last) ∧ Below w.heap.size w wr)
  case atStart => exact ⟨0, by omega, rfl, ha, hbw⟩
  case round =>
    obtain ⟨j, hjk, rfl, hr, hbr⟩ := hrel
    clear ha hbw
    by_cases hlt : j < m
    · have h1 : (last : Int) < (Fei.iter F (j + 1) x : Nat) := by have := HJ.out j hlt; omega
      go_wp2_with fail
      refine (KS' (j + 1) _).mono ?_
      rintro e wb ⟨rfl, hbb⟩
      have hr' : wb.cell? ⟨w.heap.size, 1, none⟩ = some (.int .u64 last) := (hbb.cell (World.block_lt_of_cell? _ _ hr)).trans hr
      have hbr' : Below w.heap.size w wb := hbr.trans (hbb.mono hbr.size)
      clear hr hbr hbb
      go_wp2_with fail
      go_roundg (gk - 1)
      case measure => omega
      case rel => exact ⟨j + 1, by omega, rfl, hr', hbr'⟩
    · obtain rfl : j = m := by omega
      have h1 : ¬ (last : Int) < (Fei.iter F (j + 1) x : Nat) := by have := HM.out; omega
      go_wp2_with fail
      go_ret
      exact ⟨rfl, hbr⟩

end Go.Proofs.YbulkclsoFmt
