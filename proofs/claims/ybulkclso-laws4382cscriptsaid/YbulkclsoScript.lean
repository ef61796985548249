import Derived.Test.YbulkclsoWalk14
namespace Go.Proofs.Ybulkclso
open Go.RowKit

set_option maxHeartbeats 1000000 in
theorem script_long (last x : Int) (a : Option Addr) (len cap : Nat) (w : World) (h : 1024 < len) :
    Calls Yba.prog 5 #[.int .u64 last, .int .u64 x, .slice a len cap] w fun e w' => e = .returned (.bool true) ∧ Below w.heap.size w w' := by
  have h' : (1024 : Int) < len := by omega
  go_enter Yba.func5, Yba.ntmps5
  go_wp2_with fail
  go_ret
  exact ⟨rfl, (Below.refl _ _).alloc (Nat.le_refl _) _⟩

theorem cell_new (w : World) (v : Value) (t : TypeId) (n : Nat) (hn : n = w.heap.size) : (w.alloc (.cells #[v] t)).cell? ⟨n, 0, none⟩ = some v := by subst hn; simp
theorem frozen_new (w : World) (v : Value) (t : TypeId) (n : Nat) (hn : n = w.heap.size) : (w.alloc (.cells #[v] t)).frozen? ⟨n, 0, none⟩ = false := by subst hn; simp

def PBlk (last : Int) : Obj := .cells #[.int .i64 0, .int .u64 last, .int .u8 0, .int .u64 0, .int .u64 0, .int .u64 0, .int .u64 0, .int .u64 0] 71
def W4 (w : World) (last : Int) (a : Option Addr) (len cap : Nat) : World :=
  (((w.alloc (.cells #[.slice a len cap] 49)).alloc (PBlk last)).alloc (.cells #[.slice none 0 0] 49)).alloc (.cells #[.int .i64 0] 3)

theorem W4_facts (w : World) (last : Int) (a : Option Addr) (len cap : Nat) :
    (W4 w last a len cap).heap.size = w.heap.size + 4 ∧ (W4 w last a len cap).cell? ⟨w.heap.size, 0, none⟩ = some (.slice a len cap) ∧ (W4 w last a len cap).cell? ⟨w.heap.size + 2, 0, none⟩ = some (.slice none 0 0) ∧
    (W4 w last a len cap).cell? ⟨w.heap.size + 3, 0, none⟩ = some (.int .i64 0) ∧ (W4 w last a len cap).frozen? ⟨w.heap.size + 2, 0, none⟩ = false ∧ (W4 w last a len cap).frozen? ⟨w.heap.size + 3, 0, none⟩ = false ∧
    Below w.heap.size w (W4 w last a len cap) := by
  have s1 : (w.alloc (.cells #[.slice a len cap] 49)).heap.size = w.heap.size + 1 := by simp
  have s2 : ((w.alloc (.cells #[.slice a len cap] 49)).alloc (PBlk last)).heap.size = w.heap.size + 2 := by simp
  have s3 : (((w.alloc (.cells #[.slice a len cap] 49)).alloc (PBlk last)).alloc (.cells #[.slice none 0 0] 49)).heap.size = w.heap.size + 3 := by simp
  unfold W4
  refine ⟨by simp, ?_, ?_, ?_, ?_, ?_, ?_⟩
  · rw [World.cell?_alloc_past _ _ _ (by rw [s3]; simp), World.cell?_alloc_past _ _ _ (by rw [s2]; simp), World.cell?_alloc_past _ _ _ (by rw [s1]; simp), cell_new _ _ _ _ rfl]
  · rw [World.cell?_alloc_past _ _ _ (by rw [s3]; simp), cell_new _ _ _ _ s2.symm]
  · rw [cell_new _ _ _ _ s3.symm]
  · have hb : Below (w.heap.size + 3) _ ((((w.alloc (.cells #[.slice a len cap] 49)).alloc (PBlk last)).alloc (.cells #[.slice none 0 0] 49)).alloc (.cells #[.int .i64 0] 3)) := (Below.refl _ _).alloc (by rw [s3]; exact Nat.le_refl _) _
    rw [hb.frozen (p := ⟨w.heap.size + 2, 0, none⟩) (by simp), frozen_new _ _ _ _ s2.symm]
  · rw [frozen_new _ _ _ _ s3.symm]
  · exact ((((Below.refl _ _).alloc (Nat.le_refl _) _).alloc (by simp) _).alloc (by simp; omega) _).alloc (by simp; omega) _

set_option maxHeartbeats 4000000 in
theorem script_short (last x : Int) (a : Option Addr) (len cap : Nat) (zs : List Int) (w : World) (h0 : 0 ≤ last) (hz : zs.length = len) (hlen : len ≤ 1024)
    (hrow : ∀ j, j < len → ∃ b off, a = some ⟨b, off, none⟩ ∧ b < w.heap.size ∧ w.cell? ⟨b, off + j, none⟩ = some (.int .u64 (zs.getD j 0))) :
    Calls Yba.prog 5 #[.int .u64 last, .int .u64 x, .slice a len cap] w fun e w' => e = .returned (.bool true) ∧ Below w.heap.size w w' := by
  have h' : ¬ (1024 : Int) < len := by omega
  have hmf : ∀ (fn : Fn) (first cap : Array Value) (w : World), (Instr.makeFunc fn first cap).run Yba.prog w = .ok (.func fn first cap) w := fun _ _ _ _ => rfl
  go_enter Yba.func5, Yba.ntmps5
  go_wp2_with fail
  obtain ⟨g1, g2, g3, g4, g5, g6, g7⟩ := W4_facts w last a len cap
  refine (walk_any w.heap.size (W4 w last a len cap) a len cap zs last x _ _ _ _ _ _ _ hz hlen h0 g1 g2 g3 g4 g5 g6 ?hr).mono ?_
  case hr =>
    intro j hj
    obtain ⟨b, off, e, hb, hc⟩ := hrow j hj
    exact ⟨b, off, e, hb, (g7.cell (p := ⟨b, off + j, none⟩) hb).trans hc⟩
  rintro e wr ⟨m, hst, rfl, w1, hs, hb1⟩
  obtain ⟨i0, rfl⟩ : ∃ i0, m = i0 + 1 := ⟨m - 1, by have := hst.pos; omega⟩
  rw [Nat.add_sub_cancel]
  obtain ⟨o, c, hl, hown⟩ := hs.log
  have hll := logOf_len x zs (i0 + 1) hst.le
  rw [hll] at hl hown
  obtain ⟨g, c', hoc⟩ := Joins.ownsRow_form hown (by omega)
  injection hoc with ho hc1 hc2
  subst ho
  clear hc1 hc2
  have hA : wr.cell? ⟨w.heap.size, 0, none⟩ = some (.slice a len cap) := ((hs.cell (by omega) (by omega) (by omega)).trans (hb1.cell (p := ⟨w.heap.size, 0, none⟩) (by simp))).trans g2
  have hbw : Below w.heap.size w wr := by
    refine ⟨hs.os.trans (hb1.os.trans g7.os), hs.tape.trans (hb1.tape.trans g7.tape), hs.output.trans (hb1.output.trans g7.output), by have := hs.size; omega, fun k hk => ?_⟩
    rw [hs.kept k (by omega) (by omega) (by omega), hb1.block k (by omega), g7.block k hk]
  have hrow' : ∀ j, j < len → ∃ b off, a = some ⟨b, off, none⟩ ∧ wr.cell? ⟨b, off + j, none⟩ = some (.int .u64 (ansAt zs j)) := by
    intro j hj
    obtain ⟨b, off, e, hb, hc⟩ := hrow j hj
    exact ⟨b, off, e, (hbw.cell (p := ⟨b, off + j, none⟩) hb).trans hc⟩
  have hlogc : ∀ j, j < i0 + 1 → wr.cell? ⟨g, j, none⟩ = some (.int .u64 ((x :: zs).getD j 0)) := by
    intro j hj
    rw [hown.cellAt j (by omega)]
    have h1 : j < zs.length + 1 := by have := hst.le; omega
    rw [List.getElem?_map, show (logOf x zs (i0 + 1))[j]? = (x :: zs)[j]? from List.getElem?_take_of_lt hj, List.getD, List.getElem?_eq_getElem (show j < (x :: zs).length by simpa using h1)]
    rfl
  have hle : i0 ≤ len := by have := hst.le; omega
  have HIT := hst.hit
  rw [Nat.add_sub_cancel] at HIT
  have MISS : Hid (∀ j, j < i0 → last < ansAt zs j) := fun j hj => hst.miss j (by omega)
  have hl' : wr.cell? ⟨w.heap.size + 1 + 1, 0, none⟩ = some (.slice (some ⟨g, 0, none⟩) (i0 + 1) c) := hl
  clear hst hs hb1 hrow hown hll hl g1 g2 g3 g4 g5 g6 g7 h' hmf
  have HL : Hid _ := hlogc
  have HR : Hid _ := hrow'
  clear hlogc hrow'
  go_wp2_with fail
  go_loop [13, 14, 15] (fun sw sc si => ∃ i : Nat, i ≤ i0 ∧ sw = .int .u64 0 ∧ sc = .int .i64 ((len : Int) + 1) ∧ si = .int .i64 i) (fun _ _ si => len - (intOf si).toNat)
  case atStart => exact ⟨0, Nat.zero_le _, rfl, rfl, rfl⟩
  case round =>
    obtain ⟨i, hi, rfl, rfl, rfl⟩ := hrel
    by_cases hlt : i < len
    · obtain ⟨b, off, rfl, hc⟩ := HR.out i hlt
      by_cases hii : i < i0
      · have hm := MISS.out i hii
        generalize ansAt zs i = z at hc hm
        go_wp2_with fail
        go_round
        case rel => exact ⟨i + 1, by omega, rfl, rfl, by go_num⟩
        case measure => simp [intOf]; omega
      · obtain rfl : i = i0 := by omega
        clear hii hi
        generalize ansAt zs i = z at hc HIT ⊢
        have hx0 : wr.cell? ⟨g, 0, none⟩ = some (.int .u64 x) := HL.out 0 (by omega)
        go_wp2_with fail
        go_loopw [16] (fun si W => ∃ (j q : Nat), j ≤ i ∧ si = .int .i64 ((j : Int) + 1) ∧ W = wr.drewN q) (fun si _ => i + 1 - (intOf si).toNat)
        case atStart => exact ⟨0, 0, Nat.zero_le _, rfl, rfl⟩
        case round =>
          obtain ⟨j, q, hj, rfl, rfl⟩ := hrel
          by_cases hjlt : j < i
          · obtain ⟨b, off, hab, hc3⟩ := HR.out j (by omega)
            injection hab with hab
            injection hab with hab1 hab2
            subst hab1 hab2
            have hc2 : wr.cell? ⟨g, j + 1, none⟩ = some (.int .u64 (ansAt zs j)) := HL.out (j + 1) (by omega)
            generalize ansAt zs j = y at hc3 hc2
            have n1 : (0 : Int) ≤ (j : Int) := by omega
            have n2 : (j : Int) < (len : Int) := by omega
            have n3 : (j : Int) + 1 < (i : Int) + 1 := by omega
            clear HL HR
            go_wp2_with fail
            go_quiet (fail)
            go_wp2_with fail
            go_roundw
            case rel => exact ⟨j + 1, _, by omega, by go_num, rfl⟩
            case measure => simp [intOf]; omega
          · obtain rfl : j = i := by omega
            clear HL HR
            go_wp2_with fail
            go_ret
            exact ⟨rfl, below_drewN hbw _⟩
    · obtain rfl : i = len := by omega
      obtain rfl : i0 = i := by omega
      have hz0 : ansAt zs i0 = 0 := by simp [ansAt, List.getD, List.getElem?_eq_none (show zs.length ≤ i0 by omega)]
      rw [hz0]
      clear hlt hi hle hz0
      have hx0 : wr.cell? ⟨g, 0, none⟩ = some (.int .u64 x) := HL.out 0 (by omega)
      go_wp2_with fail
      go_loopw [16] (fun si W => ∃ (j q : Nat), j ≤ i0 ∧ si = .int .i64 ((j : Int) + 1) ∧ W = wr.drewN q) (fun si _ => i0 + 1 - (intOf si).toNat)
      case atStart => exact ⟨0, 0, Nat.zero_le _, rfl, rfl⟩
      case round =>
        obtain ⟨j, q, hj, rfl, rfl⟩ := hrel
        by_cases hjlt : j < i0
        · obtain ⟨b, off, hab, hc3⟩ := HR.out j (by omega)
          subst hab
          have hc2 : wr.cell? ⟨g, j + 1, none⟩ = some (.int .u64 (ansAt zs j)) := HL.out (j + 1) (by omega)
          generalize ansAt zs j = y at hc3 hc2
          have n1 : (0 : Int) ≤ (j : Int) := by omega
          have n2 : (j : Int) < (i0 : Int) := by omega
          have n3 : (j : Int) + 1 < (i0 : Int) + 1 := by omega
          clear HL HR
          go_wp2_with fail
          go_quiet (fail)
          go_wp2_with fail
          go_roundw
          case rel => exact ⟨j + 1, _, by omega, by go_num, rfl⟩
          case measure => simp [intOf]; omega
        · obtain rfl : j = i0 := by omega
          clear HL HR
          go_wp2_with fail
          go_ret
          exact ⟨rfl, below_drewN hbw _⟩
end Go.Proofs.Ybulkclso
