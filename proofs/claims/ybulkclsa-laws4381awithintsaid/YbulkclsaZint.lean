import Derived.Test.YbulkclsaLaw
namespace Go.Proofs.Ybulkclsa
open Go.RowKit

set_option maxHeartbeats 1000000 in
theorem zint_zero (w : World) :
    Calls Yba.prog 9 #[.int .i64 0] w fun r w' => r = .returned (.tuple #[.int .i64 0, .int .i64 0, .string ⟨#[]⟩]) ∧ w' = w := by
  go_enter Yba.func9, Yba.ntmps9
  go_wp2_with fail
  go_ret3
  exact ⟨rfl, rfl⟩

def dv (u p j : Nat) : Int := if p ≤ j then 48 + ((u / 10 ^ (19 - j) % 10 : Nat) : Int) else 0

structure Buf (w wr : World) (u p : Nat) : Prop where
  cell : ∀ j, j < 20 → wr.cell? ⟨w.heap.size, j, none⟩ = some (.int .u8 (dv u p j))
  frz : ∀ j, wr.frozen? ⟨w.heap.size, j, none⟩ = false
  below : Below w.heap.size w wr

theorem Buf.start (w : World) (u : Nat) : Buf w (w.alloc (.cells #[.int .u8 0, .int .u8 0, .int .u8 0, .int .u8 0, .int .u8 0, .int .u8 0, .int .u8 0, .int .u8 0, .int .u8 0, .int .u8 0, .int .u8 0, .int .u8 0, .int .u8 0, .int .u8 0, .int .u8 0, .int .u8 0, .int .u8 0, .int .u8 0, .int .u8 0, .int .u8 0] 45)) u 20 := by
  refine ⟨fun j hj => ?_, fun j => by simp, (Below.refl _ _).alloc (Nat.le_refl _) _⟩
  have hd : dv u 20 j = 0 := by unfold dv; rw [if_neg (by omega)]
  rw [hd]
  have h20 : j = 0 ∨ j = 1 ∨ j = 2 ∨ j = 3 ∨ j = 4 ∨ j = 5 ∨ j = 6 ∨ j = 7 ∨ j = 8 ∨ j = 9 ∨ j = 10 ∨ j = 11 ∨ j = 12 ∨ j = 13 ∨ j = 14 ∨ j = 15 ∨ j = 16 ∨ j = 17 ∨ j = 18 ∨ j = 19 := by omega
  rcases h20 with rfl | rfl | rfl | rfl | rfl | rfl | rfl | rfl | rfl | rfl | rfl | rfl | rfl | rfl | rfl | rfl | rfl | rfl | rfl | rfl <;> simp

theorem Buf.step {w wr : World} {u q : Nat} (h : Buf w wr u (q + 1)) (hq : q < 20) : Buf w (wr.setCell ⟨w.heap.size, q, none⟩ (.int .u8 (48 + ((u / 10 ^ (19 - q) % 10 : Nat) : Int)))) u q := by
  refine ⟨fun j hj => ?_, fun j => ?_, h.below.setCell (by simp) _⟩
  · by_cases e : j = q
    · subst e
      rw [World.cell?_setCell_same _ _ _ (h.cell j hj)]
      simp [dv]
    · rw [World.cell?_setCell_other _ _ _ _ (by intro h; injection h; omega), h.cell j hj]
      unfold dv
      by_cases hqj : q ≤ j
      · rw [if_pos hqj, if_pos (by omega)]
      · rw [if_neg hqj, if_neg (by omega)]
  · rw [World.frozen?_setCell]; exact h.frz j

theorem conv_arr (w : World) (g p h c : Nat) (f : Nat → Int) (hc : ∀ j, j < 20 → w.cell? ⟨g, j, none⟩ = some (.int .u8 (f j))) (hh : h ≤ 20) :
    ∃ S : ByteArray, S.data.toList = (List.range (h - p)).map (fun i => UInt8.ofNat (f (p + i)).toNat) ∧ ∀ n, (convert 22 9 (.slice (some ⟨g, p, none⟩) (h - p) c)).run Yba.prog (w.drewN n) = .ok (.string S) (w.drewN n) := by
  refine ⟨strOfNums ((List.range (h - p)).map fun i => f (p + i)), by rw [strOfNums_data]; simp [List.map_map, Function.comp_def], fun n => ?_⟩
  refine run_convert_bytes_arg (w.drewN n) 22 5 Yba.underlying22 Yba.underlying5 g p (h - p) c _ (by simp) (fun i hi => ?_) 9 Yba.underlying9
  have := hc (p + i) (by omega)
  simp [List.getD, hi, this]

theorem ip_of_digits {d : List UInt8} {u E : Nat} (hu : u < 10 ^ E) (h : ∀ i, i < E → dg d i = u / 10 ^ (E - 1 - i) % 10) : ipart d E = u := by
  have key : ∀ m, m ≤ E → ipart d m = u / 10 ^ (E - m) := by
    intro m
    induction m with
    | zero => intro _; rw [ipart, Nat.sub_zero, Nat.div_eq_of_lt hu]
    | succ m ih =>
      intro hm
      rw [ipart, ih (by omega), h m (by omega)]
      have e1 : E - m = (E - (m + 1)) + 1 := by omega
      have e2 : E - 1 - m = E - (m + 1) := by omega
      rw [e1, e2, ← div_succ]
      omega
  have := key E (Nat.le_refl _)
  rwa [Nat.sub_self, Nat.pow_zero, Nat.div_one] at this

theorem zint_str {S : ByteArray} {u p h E : Nat} (hp : p = 20 - E) (hE : E ≤ 19) (hE1 : 1 ≤ E) (hu : u < 10 ^ E) (hph : p ≤ h) (hh : h ≤ 20) (hS : S.data.toList = (List.range (h - p)).map (fun i => UInt8.ofNat (dv u p (p + i)).toNat))
    (hz : ∀ j, h ≤ j → j < 20 → dv u p j = 48) : Digs S.data.toList ∧ S.size ≤ E ∧ ipart S.data.toList E = u := by
  have hdv : ∀ i, dv u p (p + i) = 48 + ((u / 10 ^ (19 - (p + i)) % 10 : Nat) : Int) := fun i => by unfold dv; rw [if_pos (by omega)]
  have hby : ∀ i, (UInt8.ofNat (dv u p (p + i)).toNat).toNat = 48 + u / 10 ^ (19 - (p + i)) % 10 := by
    intro i
    rw [hdv i]
    have : u / 10 ^ (19 - (p + i)) % 10 < 10 := Nat.mod_lt _ (by decide)
    generalize u / 10 ^ (19 - (p + i)) % 10 = x at *
    simp
    omega
  have hlen : S.data.toList.length = h - p := by rw [hS]; simp
  refine ⟨?_, ?_, ip_of_digits hu ?_⟩
  · intro d hd
    rw [hS, List.mem_map] at hd
    obtain ⟨i, _, rfl⟩ := hd
    rw [hby i]
    have : u / 10 ^ (19 - (p + i)) % 10 < 10 := Nat.mod_lt _ (by decide)
    omega
  · have : S.size = S.data.toList.length := by simp
    omega
  · intro i hi
    have e : E - 1 - i = 19 - (p + i) := by omega
    rw [e]
    by_cases hih : i < h - p
    · have : S.data.toList[i]? = some (UInt8.ofNat (dv u p (p + i)).toNat) := by rw [hS]; simp [hih]
      simp only [dg, List.getD, this, Option.getD_some, hby]
      omega
    · have h0 := hz (p + i) (by omega) (by omega)
      rw [hdv i] at h0
      have : S.data.toList[i]? = none := List.getElem?_eq_none (by omega)
      simp only [dg, List.getD, this, Option.getD_none]
      have h48 : (48 : UInt8).toNat = 48 := rfl
      omega

def sgI (i : Int) : Int := if i < 0 then -1 else 1

set_option maxHeartbeats 4000000 in
theorem zint_any (i : Int) (E u : Nat) (hE : 1 ≤ E) (hE19 : E ≤ 19) (hlo : 10 ^ (E - 1) ≤ u) (hhi : u < 10 ^ E) (hu : (i.natAbs : Int) = u) (hu63 : u ≤ 9223372036854775808) (h0 : i ≠ 0) (w : World) :
    Calls Yba.prog 9 #[.int .i64 i] w fun r w' => ∃ S : ByteArray, Digs S.data.toList ∧ S.size ≤ E ∧ ipart S.data.toList E = u ∧
      r = .returned (.tuple #[.int .i64 (sgI i), .int .i64 E, .string S]) ∧ Below w.heap.size w w' := by
  have hi0 : (i == 0) = false := by simpa using h0
  have HLO : Hid (10 ^ (E - 1) ≤ u) := hlo
  have HHI : Hid (u < 10 ^ E) := hhi
  clear hlo hhi
  by_cases hn : i < 0
  · have HSG : Hid (sgI i = -1) := by show _ = _; unfold sgI; rw [if_pos hn]
    have hw : IntKind.u64.wrap (-IntKind.u64.wrap i) = (u : Int) := by rw [u64w, u64w]; omega
    clear hu h0
    go_enter Yba.func9, Yba.ntmps9
    go_wp2_with fail
    go_loopw [6, 8] (fun su sp wr => ∃ p : Nat, 20 - E ≤ p ∧ p ≤ 20 ∧ sp = .int .i64 p ∧ su = .int .u64 ((u / 10 ^ (20 - p) : Nat) : Int) ∧ Buf w wr u p) (fun _ sp _ => (intOf sp).toNat)
    case atStart => exact ⟨20, by omega, Nat.le_refl _, rfl, by simp, Buf.start w u⟩
    case round =>
      obtain ⟨p, hp1, hp2, rfl, rfl, hbuf⟩ := hrel
      by_cases hlt : 20 - E < p
      · obtain ⟨q, rfl⟩ : ∃ q, p = q + 1 := ⟨p - 1, by omega⟩
        have hq19 : q ≤ 19 := by omega
        have hpos : 0 < u / 10 ^ (20 - (q + 1)) := div_pos_of (Nat.le_trans (Nat.pow_le_pow_right (by decide) (by omega)) HLO.out)
        have hle : u / 10 ^ (20 - (q + 1)) ≤ u := Nat.div_le_self _ _
        have HNX : Hid (u / 10 ^ (20 - q) = u / 10 ^ (20 - (q + 1)) / 10) := by
          show _ = _
          rw [div_succ, show 20 - (q + 1) + 1 = 20 - q by omega]
        have HST := hbuf.step (by omega : q < 20)
        rw [show 19 - q = 20 - (q + 1) by omega] at HST
        have g := hbuf.cell q (by omega)
        have gf := hbuf.frz q
        have HST' : Hid _ := HST
        clear HST hbuf
        generalize u / 10 ^ (20 - (q + 1)) = U at *
        generalize dv u (q + 1) q = x at *
        go_wp2_with fail
        go_roundw
        case rel => exact ⟨q, by omega, by omega, rfl, by rw [HNX.out]; go_num, by have := HST'.out; simpa using this⟩
        case measure => simp [intOf]
      · obtain rfl : p = 20 - E := by omega
        have hz : u / 10 ^ (20 - (20 - E)) = 0 := div_zero_of (by rw [show 20 - (20 - E) = E by omega]; exact HHI.out)
        rw [hz]
        clear hz hlt hp1 hp2
        have hpe : ((20 - E : Nat) : Int) = 20 - (E : Int) := by omega
        have HP : Hid (20 - E = 20 - E) := rfl
        obtain ⟨p, hp⟩ : ∃ p, p = 20 - E := ⟨_, rfl⟩
        rw [← hp] at hbuf ⊢
        have hp1 : p ≤ 19 := by omega
        have hpE : (E : Int) = 20 - p := by omega
        have HPE : Hid _ := hpE
        clear hpE hpe
        have HP' : Hid _ := hp
        clear hp
        go_wp2_with fail
        go_loop [10] (fun s => ∃ h : Nat, p ≤ h ∧ h ≤ 20 ∧ s = .int .i64 h ∧ ∀ j, h ≤ j → j < 20 → dv u p j = 48) (fun s => (intOf s).toNat)
        case atStart => exact ⟨20, by omega, Nat.le_refl _, rfl, fun j h1 h2 => absurd h2 (by omega)⟩
        case round =>
          obtain ⟨h, hph, hh20, rfl, hhz⟩ := hrel
          have HHZ : Hid _ := hhz
          clear hhz
          by_cases hlt3 : p < h
          · obtain ⟨h, rfl⟩ : ∃ h', h = h' + 1 := ⟨h - 1, by omega⟩
            have g3 := hbuf.cell h (by omega)
            by_cases h48 : dv u p h = 48
            · rw [h48] at g3
              have H48 : Hid _ := h48
              clear h48
              go_wp2_with fail
              go_round
              case rel => exact ⟨h, by omega, by omega, rfl, fun j h1 h2 => by
                by_cases e : j = h
                · rw [e]; exact H48.out
                · exact HHZ.out j (by omega) h2⟩
              case measure => simp [intOf]
            · have g4 : (dv u p h == 48) = false := by simpa using h48
              clear h48
              generalize dv u p h = x3 at g3 g4
              obtain ⟨S, hS, hconv⟩ := conv_arr wr w.heap.size p (h + 1) (20 - p) _ hbuf.cell hh20
              have hW := zint_str HP'.out hE19 hE HHI.out hph hh20 hS HHZ.out
              clear hS
              have q0 : (0 : Int) ≤ (p : Int) := by omega
              have q1 : (p : Int) ≤ (h : Int) + 1 := by omega
              have q2 : (h : Int) + 1 ≤ 20 := by omega
              go_wp2_with fail
              go_quiet (fail)
              go_wp2_with fail
              go_ret3
              exact ⟨S, hW.1, hW.2.1, hW.2.2, by rw [HSG.out, HPE.out]; rfl, below_drewN hbuf.below _⟩
          · obtain rfl : h = p := by omega
            obtain ⟨S, hS, hconv⟩ := conv_arr wr w.heap.size h h (20 - h) _ hbuf.cell hh20
            have hW := zint_str HP'.out hE19 hE HHI.out hph hh20 hS HHZ.out
            clear hS
            simp only [Nat.sub_self] at hconv
            have q0 : (0 : Int) ≤ (h : Int) := by omega
            have q2 : (h : Int) ≤ 20 := by omega
            go_wp2_with fail
            go_quiet (fail)
            go_wp2_with fail
            go_ret3
            exact ⟨S, hW.1, hW.2.1, hW.2.2, by rw [HSG.out, HPE.out]; rfl, below_drewN hbuf.below _⟩
  · have HSG : Hid (sgI i = 1) := by show _ = _; unfold sgI; rw [if_neg hn]
    have hw : IntKind.u64.wrap i = (u : Int) := by rw [u64w]; omega
    clear hu h0
    go_enter Yba.func9, Yba.ntmps9
    go_wp2_with fail
    go_loopw [6, 8] (fun su sp wr => ∃ p : Nat, 20 - E ≤ p ∧ p ≤ 20 ∧ sp = .int .i64 p ∧ su = .int .u64 ((u / 10 ^ (20 - p) : Nat) : Int) ∧ Buf w wr u p) (fun _ sp _ => (intOf sp).toNat)
    case atStart => exact ⟨20, by omega, Nat.le_refl _, rfl, by simp, Buf.start w u⟩
    case round =>
      obtain ⟨p, hp1, hp2, rfl, rfl, hbuf⟩ := hrel
      by_cases hlt : 20 - E < p
      · obtain ⟨q, rfl⟩ : ∃ q, p = q + 1 := ⟨p - 1, by omega⟩
        have hq19 : q ≤ 19 := by omega
        have hpos : 0 < u / 10 ^ (20 - (q + 1)) := div_pos_of (Nat.le_trans (Nat.pow_le_pow_right (by decide) (by omega)) HLO.out)
        have hle : u / 10 ^ (20 - (q + 1)) ≤ u := Nat.div_le_self _ _
        have HNX : Hid (u / 10 ^ (20 - q) = u / 10 ^ (20 - (q + 1)) / 10) := by
          show _ = _
          rw [div_succ, show 20 - (q + 1) + 1 = 20 - q by omega]
        have HST := hbuf.step (by omega : q < 20)
        rw [show 19 - q = 20 - (q + 1) by omega] at HST
        have g := hbuf.cell q (by omega)
        have gf := hbuf.frz q
        have HST' : Hid _ := HST
        clear HST hbuf
        generalize u / 10 ^ (20 - (q + 1)) = U at *
        generalize dv u (q + 1) q = x at *
        go_wp2_with fail
        go_roundw
        case rel => exact ⟨q, by omega, by omega, rfl, by rw [HNX.out]; go_num, by have := HST'.out; simpa using this⟩
        case measure => simp [intOf]
      · obtain rfl : p = 20 - E := by omega
        have hz : u / 10 ^ (20 - (20 - E)) = 0 := div_zero_of (by rw [show 20 - (20 - E) = E by omega]; exact HHI.out)
        rw [hz]
        clear hz hlt hp1 hp2
        have hpe : ((20 - E : Nat) : Int) = 20 - (E : Int) := by omega
        have HP : Hid (20 - E = 20 - E) := rfl
        obtain ⟨p, hp⟩ : ∃ p, p = 20 - E := ⟨_, rfl⟩
        rw [← hp] at hbuf ⊢
        have hp1 : p ≤ 19 := by omega
        have hpE : (E : Int) = 20 - p := by omega
        have HPE : Hid _ := hpE
        clear hpE hpe
        have HP' : Hid _ := hp
        clear hp
        go_wp2_with fail
        go_loop [10] (fun s => ∃ h : Nat, p ≤ h ∧ h ≤ 20 ∧ s = .int .i64 h ∧ ∀ j, h ≤ j → j < 20 → dv u p j = 48) (fun s => (intOf s).toNat)
        case atStart => exact ⟨20, by omega, Nat.le_refl _, rfl, fun j h1 h2 => absurd h2 (by omega)⟩
        case round =>
          obtain ⟨h, hph, hh20, rfl, hhz⟩ := hrel
          have HHZ : Hid _ := hhz
          clear hhz
          by_cases hlt3 : p < h
          · obtain ⟨h, rfl⟩ : ∃ h', h = h' + 1 := ⟨h - 1, by omega⟩
            have g3 := hbuf.cell h (by omega)
            by_cases h48 : dv u p h = 48
            · rw [h48] at g3
              have H48 : Hid _ := h48
              clear h48
              go_wp2_with fail
              go_round
              case rel => exact ⟨h, by omega, by omega, rfl, fun j h1 h2 => by
                by_cases e : j = h
                · rw [e]; exact H48.out
                · exact HHZ.out j (by omega) h2⟩
              case measure => simp [intOf]
            · have g4 : (dv u p h == 48) = false := by simpa using h48
              clear h48
              generalize dv u p h = x3 at g3 g4
              obtain ⟨S, hS, hconv⟩ := conv_arr wr w.heap.size p (h + 1) (20 - p) _ hbuf.cell hh20
              have hW := zint_str HP'.out hE19 hE HHI.out hph hh20 hS HHZ.out
              clear hS
              have q0 : (0 : Int) ≤ (p : Int) := by omega
              have q1 : (p : Int) ≤ (h : Int) + 1 := by omega
              have q2 : (h : Int) + 1 ≤ 20 := by omega
              go_wp2_with fail
              go_quiet (fail)
              go_wp2_with fail
              go_ret3
              exact ⟨S, hW.1, hW.2.1, hW.2.2, by rw [HSG.out, HPE.out]; rfl, below_drewN hbuf.below _⟩
          · obtain rfl : h = p := by omega
            obtain ⟨S, hS, hconv⟩ := conv_arr wr w.heap.size h h (20 - h) _ hbuf.cell hh20
            have hW := zint_str HP'.out hE19 hE HHI.out hph hh20 hS HHZ.out
            clear hS
            simp only [Nat.sub_self] at hconv
            have q0 : (0 : Int) ≤ (h : Int) := by omega
            have q2 : (h : Int) ≤ 20 := by omega
            go_wp2_with fail
            go_quiet (fail)
            go_wp2_with fail
            go_ret3
            exact ⟨S, hW.1, hW.2.1, hW.2.2, by rw [HSG.out, HPE.out]; rfl, below_drewN hbuf.below _⟩
end Go.Proofs.Ybulkclsa
