import Derived.Test.YbulkclsoStep
namespace Go.Proofs.Ybulkclso
open Go.RowKit

/-- call m (from 1 on) is the first whose answer lies at or below 'last' -/
structure Stops (zs : List Int) (last : Int) (m : Nat) : Prop where
  pos : 1 ≤ m
  le : m ≤ zs.length + 1
  hit : ansAt zs (m - 1) ≤ last
  miss : ∀ j, j + 1 < m → last < ansAt zs j

/-- the log behind m calls -/
def logOf (x : Int) (zs : List Int) (m : Nat) : List Int := (x :: zs).take m

theorem logOf_len (x : Int) (zs : List Int) (m : Nat) (h : m ≤ zs.length + 1) : (logOf x zs m).length = m := by simp [logOf]; omega
theorem logOf_succ (x : Int) (zs : List Int) (m : Nat) (h : m + 1 ≤ zs.length) : logOf x zs (m + 1) ++ [ansAt zs m] = logOf x zs (m + 1 + 1) := by
  unfold logOf
  rw [List.take_succ_eq_append_getElem (i := m + 1) (by simp; omega)]
  simp [ansAt, List.getD, List.getElem?_eq_getElem (show m < zs.length by omega)]

def kOf (N : Nat) (w : World) : Nat := (intOf ((w.cell? ⟨N + 3, 0, none⟩).getD (.bool false))).toNat
theorem kOf_scr {N : Nat} {w1 wr : World} {lg : List Int} {k : Nat} (h : Scr N w1 lg k wr) : kOf N wr = k := by simp [kOf, h.kc, intOf]

set_option maxHeartbeats 2000000 in
theorem walk_any (N : Nat) (w : World) (a : Option Addr) (len cap : Nat) (zs : List Int) (last x : Int) (c0 c2 c3 c4 c5 c6 c7 : Value) (hz : zs.length = len) (hlen : len ≤ 1024) (h0 : 0 ≤ last)
    (hsz : w.heap.size = N + 4) (hans : w.cell? ⟨N, 0, none⟩ = some (.slice a len cap)) (hl : w.cell? ⟨N + 2, 0, none⟩ = some (.slice none 0 0)) (hk : w.cell? ⟨N + 3, 0, none⟩ = some (.int .i64 0))
    (f2 : w.frozen? ⟨N + 2, 0, none⟩ = false) (f3 : w.frozen? ⟨N + 3, 0, none⟩ = false)
    (hrow : ∀ j, j < len → ∃ b off, a = some ⟨b, off, none⟩ ∧ b < N ∧ w.cell? ⟨b, off + j, none⟩ = some (.int .u64 (zs.getD j 0))) :
    Calls Yba.prog 14 #[.agg #[c0, .int .u64 last, c2, c3, c4, c5, c6, c7], .int .u64 x, .func (.func 13) #[] #[.pointer (some ⟨N + 2, 0, none⟩), .pointer (some ⟨N + 3, 0, none⟩), .pointer (some ⟨N, 0, none⟩)]] w fun e w' =>
      ∃ m : Nat, Stops zs last m ∧ e = .returned (.int .u64 (ansAt zs (m - 1))) ∧ ∃ w1, Scr N w1 (logOf x zs m) m w' ∧ Below (N + 4) w w1 := by
  go_enter Yba.func14, Yba.ntmps14
  go_wp2_with fail
  have hb1 : Below (N + 4) w (w.alloc (.cells #[c0, .int .u64 last, c2, c3, c4, c5, c6, c7] 71)) := (Below.refl _ _).alloc (by omega) _
  have hp : ∀ W : World, W.heap[N + 4]? = (w.alloc (.cells #[c0, .int .u64 last, c2, c3, c4, c5, c6, c7] 71)).heap[N + 4]? → W.cell? ⟨N + 4, 1, none⟩ = some (.int .u64 last) := by
    intro W hW
    rw [World.cell?_of_block (w := w.alloc (.cells #[c0, .int .u64 last, c2, c3, c4, c5, c6, c7] 71)) (a := ⟨N + 4, 1, none⟩) hW, ← hsz]
    simp
  have s0 : Scr N (w.alloc (.cells #[c0, .int .u64 last, c2, c3, c4, c5, c6, c7] 71)) [] 0 (w.alloc (.cells #[c0, .int .u64 last, c2, c3, c4, c5, c6, c7] 71)) :=
    ⟨rfl, rfl, rfl, by simp; omega, fun _ _ _ _ => rfl, ⟨none, 0, by rw [World.cell?_alloc_past _ _ _ (show N + 2 < w.heap.size by omega)]; exact hl, World.ownsRow_nil _ _ _ _⟩, by rw [World.cell?_alloc_past _ _ _ (show N + 3 < w.heap.size by omega)]; exact hk,
      by rw [hb1.frozen (p := ⟨N + 2, 0, none⟩) (by simp)]; exact f2, by rw [hb1.frozen (p := ⟨N + 3, 0, none⟩) (by simp)]; exact f3⟩
  have hans1 : (w.alloc (.cells #[c0, .int .u64 last, c2, c3, c4, c5, c6, c7] 71)).cell? ⟨N, 0, none⟩ = some (.slice a len cap) := by rw [World.cell?_alloc_past _ _ _ (show N < w.heap.size by omega)]; exact hans
  have hrow1 : ∀ j, j < len → ∃ b off, a = some ⟨b, off, none⟩ ∧ b < N ∧ (w.alloc (.cells #[c0, .int .u64 last, c2, c3, c4, c5, c6, c7] 71)).cell? ⟨b, off + j, none⟩ = some (.int .u64 (zs.getD j 0)) := by
    intro j hj
    obtain ⟨b, off, e, hb, hc⟩ := hrow j hj
    exact ⟨b, off, e, hb, by rw [World.cell?_alloc_past _ _ _ (show b < w.heap.size by omega)]; exact hc⟩
  generalize w.alloc (.cells #[c0, .int .u64 last, c2, c3, c4, c5, c6, c7] 71) = w1 at *
  clear hrow hans hl hk f2 f3
  refine (step_any N w1 a len cap zs [] 0 x w1 hz (by omega) (by simp) hans1 hrow1 s0).mono ?_
  rintro e wa ⟨rfl, sa⟩
  have ha := hp wa (sa.kept (N + 4) (by omega) (by omega) (by omega))
  clear hsz s0
  go_wp2_with fail
  go_loopw [1] (fun sx wr => ∃ m : Nat, m ≤ len ∧ sx = .int .u64 (ansAt zs m) ∧ Scr N w1 (logOf x zs (m + 1)) (m + 1) wr ∧ ∀ j, j < m → last < ansAt zs j) (fun _ wr => 2000 - kOf N wr)
  case atStart => exact ⟨0, Nat.zero_le _, rfl, by simpa [logOf] using sa, fun j hj => absurd hj (Nat.not_lt_zero _)⟩
  case round =>
    obtain ⟨m, hm, rfl, hs, hmiss⟩ := hrel
    have HMISS : Hid _ := hmiss
    clear hmiss sa ha
    have hpx := hp wr (hs.kept (N + 4) (by omega) (by omega) (by omega))
    by_cases hlt : last < ansAt zs m
    · have hml : m < len := by
        apply Nat.lt_of_not_le; intro h
        have : ansAt zs m = 0 := by simp [ansAt, List.getD, List.getElem?_eq_none (show zs.length ≤ m by omega)]
        omega
      go_wp2_with fail
      refine (step_any N w1 a len cap zs _ (m + 1) (ansAt zs m) wr hz (by omega) (by rw [logOf_len _ _ _ (by omega)]; omega) hans1 hrow1 hs).mono ?_
      rintro e wb ⟨rfl, sb⟩
      rw [logOf_succ x zs m (by omega)] at sb
      go_wp2_with fail
      go_roundw
      case rel => exact ⟨m + 1, by omega, rfl, sb, fun j hj => by
        by_cases e : j = m
        · rw [e]; exact hlt
        · exact HMISS.out j (by omega)⟩
      case measure => rw [kOf_scr sb, kOf_scr hs]; omega
    · go_wp2_with fail
      go_ret
      exact ⟨m + 1, ⟨by omega, by omega, by simpa using hlt, fun j hj => HMISS.out j (by omega)⟩, rfl, w1, hs, hb1⟩
end Go.Proofs.Ybulkclso
