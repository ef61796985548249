import Derived.Test.YbulkclsaNv
import Derived.Lib.SlBytesRow
namespace Go.Proofs.Ybulkclsa
open Go.RowKit

theorem Yba.info5 : (Yba.prog.info? 5).map (fun i => (i.zero, i.size, i.bytes)) = some (some (.int .u8 0), 1, 1) := by kernel_rfl

structure Wf (ds : List UInt8) : Prop where
  digs : Digs ds
  ne : ds ≠ []
  first : ds.head? ≠ some 48
  last : ds.getLast? ≠ some 48

def VOf (neg : Bool) (e : Int) (s : ByteArray) (V : Value) : Prop :=
  (IsI neg s.data.toList e ∧ V = intAgg (sgn neg (ipart s.data.toList e.toNat))) ∨ (¬ IsI neg s.data.toList e ∧ V = decAgg neg e s)

/-- the bytes that the first loop lays -/
def bs (zs : List Int) : List Int := zs.map fun d => 48 + d % 10

def W1 (w : World) (neg : Bool) (a : Option Addr) (len cap : Nat) (e : Int) : World :=
  (w.alloc (.cells #[.bool neg, .slice a len cap, .int .i64 e] 24)).alloc (.cells #[.int .u8 0, .bool false, .int .i64 0, .string ⟨#[]⟩, .pointer none] 28)

theorem W1_size (w : World) (neg : Bool) (a : Option Addr) (len cap : Nat) (e : Int) : (W1 w neg a len cap e).heap.size = w.heap.size + 2 := by simp [W1]

theorem bfacts {w wr : World} {neg : Bool} {a : Option Addr} {len cap : Nat} {e : Int} (h : Below (w.heap.size + 2) (W1 w neg a len cap e) wr) :
    wr.cell? ⟨w.heap.size, 0, none⟩ = some (.bool neg) ∧ wr.cell? ⟨w.heap.size, 1, none⟩ = some (.slice a len cap) ∧ wr.cell? ⟨w.heap.size, 2, none⟩ = some (.int .i64 e) ∧
    wr.cell? ⟨w.heap.size + 1, 0, none⟩ = some (.int .u8 0) ∧ wr.cell? ⟨w.heap.size + 1, 1, none⟩ = some (.bool false) ∧ wr.cell? ⟨w.heap.size + 1, 2, none⟩ = some (.int .i64 0) ∧
    wr.cell? ⟨w.heap.size + 1, 3, none⟩ = some (.string ⟨#[]⟩) ∧ wr.cell? ⟨w.heap.size + 1, 4, none⟩ = some (.pointer none) ∧
    (∀ j, wr.frozen? ⟨w.heap.size + 1, j, none⟩ = false) ∧ w.heap.size + 2 ≤ wr.heap.size ∧ Below w.heap.size w wr := by
  have hb : Below w.heap.size w (W1 w neg a len cap e) := ((Below.refl _ _).alloc (Nat.le_refl _) _).alloc (by simp) _
  refine ⟨?_, ?_, ?_, ?_, ?_, ?_, ?_, ?_, ?_, ?_, hb.trans (h.mono (by omega))⟩
  · rw [h.cell (p := ⟨w.heap.size, 0, none⟩) (by simp)]; simp [W1, World.cell?_alloc_past]
  · rw [h.cell (p := ⟨w.heap.size, 1, none⟩) (by simp)]; simp [W1, World.cell?_alloc_past]
  · rw [h.cell (p := ⟨w.heap.size, 2, none⟩) (by simp)]; simp [W1, World.cell?_alloc_past]
  · rw [h.cell (p := ⟨w.heap.size + 1, 0, none⟩) (by simp)]; simp [W1]
  · rw [h.cell (p := ⟨w.heap.size + 1, 1, none⟩) (by simp)]; simp [W1]
  · rw [h.cell (p := ⟨w.heap.size + 1, 2, none⟩) (by simp)]; simp [W1]
  · rw [h.cell (p := ⟨w.heap.size + 1, 3, none⟩) (by simp)]; simp [W1]
  · rw [h.cell (p := ⟨w.heap.size + 1, 4, none⟩) (by simp)]; simp [W1]
  · intro j; rw [h.frozen (p := ⟨w.heap.size + 1, j, none⟩) (by simp)]; simp [W1]
  · have := h.size; rw [W1_size] at this; exact this

theorem bs_len (zs : List Int) : (bs zs).length = zs.length := by simp [bs]
theorem bs_succ (zs : List Int) (k : Nat) (h : k < zs.length) : bs (zs.take (k + 1)) = bs (zs.take k) ++ [48 + zs.getD k 0 % 10] := by
  rw [List.take_succ_eq_append_getElem h]; simp only [bs, List.map_append, List.getD, List.getElem?_eq_getElem h]; rfl

theorem bs_digs (zs : List Int) : ∀ b ∈ bs zs, 48 ≤ b ∧ b ≤ 57 := by
  intro b hb
  simp only [bs, List.mem_map] at hb
  obtain ⟨z, _, rfl⟩ := hb
  omega

theorem nv_any (neg : Bool) (s : ByteArray) (e : Int) (hs : s.size ≤ 1024) (hD : Digs s.data.toList) (w : World) :
    Calls Yba.prog 10 #[.bool neg, .string s, .int .i64 e] w fun r w' => ∃ (kd : Int) (ng : Bool) (n : Int) (st : ByteArray),
      VOf neg e s (.agg #[.int .u8 kd, .bool ng, .int .i64 n, .string st, .pointer none]) ∧ r = .returned (.agg #[.int .u8 kd, .bool ng, .int .i64 n, .string st, .pointer none]) ∧ Below w.heap.size w w' := by
  by_cases hI : IsI neg s.data.toList e
  · refine (nv_int neg s e hD (by have := hI.1; omega) hI w).mono ?_
    rintro r w' ⟨rfl, hb⟩
    exact ⟨_, _, _, _, Or.inl ⟨hI, rfl⟩, rfl, hb⟩
  · refine (nv_dec neg s e (by omega) hD hI w).mono ?_
    rintro r w' ⟨rfl, hb⟩
    exact ⟨_, _, _, _, Or.inr ⟨hI, rfl⟩, rfl, hb⟩

theorem conv_row (w : World) (g l h k : Nat) (B : List Int) (hB : B.length = k) (hc : ∀ j, j < k → w.cell? ⟨g, j, none⟩ = some (.int .u8 (B.getD j 0))) (hlh : l ≤ h) (hhk : h ≤ k) :
    ∃ S : ByteArray, S.data.toList = ((B.drop l).take (h - l)).map (fun n => UInt8.ofNat n.toNat) ∧ (convert 22 9 (.slice (some ⟨g, l, none⟩) (h - l) (k - l))).run Yba.prog w = .ok (.string S) w := by
  refine ⟨strOfNums ((B.drop l).take (h - l)), strOfNums_data _, ?_⟩
  refine run_convert_bytes_arg w 22 5 Yba.underlying22 Yba.underlying5 g l (h - l) (k - l) _ (by simp; omega) (fun i hi => ?_) 9 Yba.underlying9
  rw [hc (l + i) (by omega)]
  simp [List.getD, hi]

theorem wf_row {B : List Int} {l h : Nat} {S : ByteArray} (hd : ∀ b ∈ B, 48 ≤ b ∧ b ≤ 57) (hS : S.data.toList = ((B.drop l).take (h - l)).map (fun n => UInt8.ofNat n.toNat)) (hlh : l < h) (hh : h ≤ B.length) (hB : B.length ≤ 1024)
    (h1 : B.getD l 0 ≠ 48) (h2 : B.getD (h - 1) 0 ≠ 48) : Wf S.data.toList ∧ S.size ≤ 1024 := by
  have hlen : S.data.toList.length = h - l := by rw [hS]; simp; omega
  have hget : ∀ i (hi : i < h - l), S.data.toList[i]? = some (UInt8.ofNat (B.getD (l + i) 0).toNat) := by
    intro i hi
    rw [hS]
    have : l + i < B.length := by omega
    simp [hi, List.getElem?_drop, List.getD, List.getElem?_eq_getElem this]
  have hdd : ∀ i, i < B.length → 48 ≤ B.getD i 0 ∧ B.getD i 0 ≤ 57 := by
    intro i hi
    have := hd B[i] (List.getElem_mem hi)
    simpa [List.getD, List.getElem?_eq_getElem hi] using this
  have hnat : ∀ x : Int, 48 ≤ x → x ≤ 57 → (UInt8.ofNat x.toNat).toNat = x.toNat := by intro x h1 h2; simp; omega
  have h48 : ∀ x : Int, 48 ≤ x → x ≤ 57 → x ≠ 48 → UInt8.ofNat x.toNat ≠ 48 := by
    intro x a b c e
    have := congrArg UInt8.toNat e
    rw [hnat x a b] at this
    simp at this; omega
  refine ⟨⟨?_, ?_, ?_, ?_⟩, ?_⟩
  · intro d hdm
    rw [List.mem_iff_getElem?] at hdm
    obtain ⟨i, hi⟩ := hdm
    have hil : i < h - l := by rw [← hlen]; exact (List.getElem?_eq_some_iff.1 hi).1
    rw [hget i hil] at hi
    injection hi with hi
    have := hdd (l + i) (by omega)
    rw [← hi, hnat _ this.1 this.2]; omega
  · intro e; rw [e] at hlen; simp at hlen; omega
  · rw [List.head?_eq_getElem?, hget 0 (by omega)]
    intro e; injection e with e
    have := hdd l (by omega)
    exact h48 _ this.1 this.2 h1 e
  · rw [List.getLast?_eq_getElem?, hlen, hget (h - l - 1) (by omega)]
    intro e; injection e with e
    have hh1 : l + (h - l - 1) = h - 1 := by omega
    rw [hh1] at e
    have := hdd (h - 1) (by omega)
    exact h48 _ this.1 this.2 h2 e
  · have : S.size = S.data.toList.length := by simp
    omega

theorem wf_one : Wf (⟨#[49]⟩ : ByteArray).data.toList := by
  refine ⟨?_, by decide, by decide, by decide⟩
  intro d hd; simp at hd; subst hd; decide

set_option maxHeartbeats 4000000 in
theorem build_any (neg : Bool) (a : Option Addr) (len cap : Nat) (e : Int) (zs : List Int) (hz : zs.length = len) (hlen : len ≤ 1024) (hr : ∀ z ∈ zs, 0 ≤ z ∧ z ≤ 255) (w : World)
    (hrow : ∀ k, k < len → ∃ b off, a = some ⟨b, off, none⟩ ∧ b < w.heap.size ∧ w.cell? ⟨b, off + k, none⟩ = some (.int .u8 (zs.getD k 0))) :
    Calls Yba.prog 5 #[.agg #[.bool neg, .slice a len cap, .int .i64 e]] w fun r w' => ∃ (s : ByteArray) (V : Value), Wf s.data.toList ∧ s.size ≤ 1024 ∧ VOf neg e s V ∧
      r = .returned (.tuple #[V, .int .i64 (sg neg), .int .i64 e, .string s]) ∧ Below w.heap.size w w' := by
  obtain ⟨i0, hi, hz0, hz1, hz2⟩ := info_parts Yba.info5
  have HZ : Hid _ := hz
  clear hz
  go_enter Yba.func5, Yba.ntmps5
  go_wp2_with (at_make; refine wpList_make_own _ rfl _ _ 22 rfl (w.heap.size + 2) 5 i0 (.int .u8 0) 1 Yba.underlying22 hi hz0 hz1 _ _ _ len rfl rfl rfl ?b2 ?b3 ?b4 ?_)
  case b2 => rw [hz2]; omega
  case b3 => unfold maxLen; omega
  case b4 => simp
  intro w0 hown0 hgrow0
  have hb0 : Below (w.heap.size + 2) (W1 w neg a len cap e) w0 := (Below.refl _ _).grown hgrow0 (by rw [W1_size]; exact Nat.le_refl _) (fun k h => by cases h)
  clear hgrow0
  have ⟨c0, c1, c2, d0, d1, d2, d3, d4, hfz, hsz, hbw⟩ := bfacts hb0
  go_wp2_with fail
  clear c0 c1 c2 d0 d1 d2 d3 d4 hfz hsz hbw
  go_loopw [6, 21] (fun buf i wr => ∃ k : Nat, k ≤ len ∧ i = .int .i64 k ∧ buf = .slice (some ⟨w.heap.size + 1 + 1, 0, none⟩) k len ∧
      wr.ownsRow (w.heap.size + 2) 5 1 (.slice (some ⟨w.heap.size + 1 + 1, 0, none⟩) k len) k ((bs (zs.take k)).map (Value.int .u8)) ∧ Below (w.heap.size + 2) (W1 w neg a len cap e) wr)
    (fun _ i _ => len - (intOf i).toNat)
  case atStart => exact ⟨0, Nat.zero_le _, rfl, rfl, by simpa [bs] using hown0, hb0⟩
  case round =>
    obtain ⟨k, hk, rfl, rfl, hown, hnx⟩ := hrel
    clear hown0 hb0
    by_cases hlt : k < len
    · obtain ⟨b, off, rfl, hbw, hcell⟩ := hrow k hlt
      have ⟨c0, c1, c2, d0, d1, d2, d3, d4, hfz, hsz, hbl⟩ := bfacts hnx
      have hcx : wr.cell? ⟨b, off + k, none⟩ = some (.int .u8 (zs.getD k 0)) := (hbl.cell (p := ⟨b, off + k, none⟩) hbw).trans hcell
      have hzr : 0 ≤ zs.getD k 0 ∧ zs.getD k 0 ≤ 255 := by
        have hkz : k < zs.length := by rw [HZ.out]; exact hlt
        have := hr zs[k] (List.getElem_mem hkz)
        simpa [List.getD, List.getElem?_eq_getElem hkz] using this
      generalize hzk : zs.getD k 0 = z at *
      have HZK : Hid _ := hzk
      obtain ⟨hz1', hz2'⟩ := hzr
      clear hzk c0 c1 c2 d0 d1 d2 d3 d4 hfz hrow hcell
      go_wp2_with (at_builtin; refine wpList_append_fits _ rfl _ _ 22 rfl (w.heap.size + 2) 5 i0 1 Yba.underlying22 hi hz1 (w.heap.size + 1 + 1) k len _ rfl (hown.alloc _) ⟨wr.heap.size, 0, none⟩ 1 1 [.int .u8 (48 + z % 10)] rfl rfl ?c1 ?c2 ?c3 ?_)
      case c1 =>
        intro j u hj
        match j, hj with
        | 0, hj => simp at hj; subst hj; simp [Addr.add]
      case c2 => intro u hu; simp at hu; subst hu; rfl
      case c3 => omega
      intro w2 hown2 hgrow2
      have hR : w2.ownsRow (w.heap.size + 2) 5 1 (.slice (some ⟨w.heap.size + 1 + 1, 0, none⟩) (k + 1) len) (k + 1) ((bs (zs.take (k + 1))).map (Value.int .u8)) := by
        rw [bs_succ zs k (by rw [HZ.out]; exact hlt), HZK.out, List.map_append]; exact hown2
      have hnx2 : Below (w.heap.size + 2) (W1 w neg (some ⟨b, off, none⟩) len cap e) w2 := (hnx.alloc hsz _).grown hgrow2 (by simp; omega) (fun k hk => by cases hk; omega)
      clear hown2 hgrow2 hown hnx
      go_wp2_with fail
      go_roundw
      case rel => exact ⟨k + 1, by omega, by go_num, rfl, hR, hnx2⟩
      case measure => simp [intOf]; omega
    · obtain rfl : k = len := by omega
      have hB := bs_len zs
      rw [HZ.out] at hB
      rw [List.take_of_length_le (Nat.le_of_eq HZ.out)] at hown
      have ⟨c0, c1, c2, d0, d1, d2, d3, d4, hfz, hsz, hbl⟩ := bfacts hnx
      clear hrow hlt hk
      have hcb : ∀ j, j < k → wr.cell? ⟨w.heap.size + 1 + 1, j, none⟩ = some (.int .u8 ((bs zs).getD j 0)) := by
        intro j hj
        rw [hown.cellAt j (by omega)]
        simp [List.getD, List.getElem?_eq_getElem (show j < (bs zs).length by omega)]
      have HB : Hid _ := hB
      have HBD : Hid _ := bs_digs zs
      clear hB
      generalize bs zs = B at *
      have HCB : Hid _ := hcb
      clear hcb
      go_wp2_with fail
      clear c0 c1 c2 d0 d1 d2 d3 d4 hfz hsz hbl
      go_loop [9] (fun i => ∃ l : Nat, l ≤ k ∧ i = .int .i64 l ∧ ∀ j, j < l → B.getD j 0 = 48) (fun i => k - (intOf i).toNat)
      case atStart => exact ⟨0, Nat.zero_le _, rfl, fun j hj => absurd hj (Nat.not_lt_zero _)⟩
      case round =>
        obtain ⟨l, hl, rfl, hlz⟩ := hrel
        have HLZ : Hid _ := hlz
        clear hlz
        by_cases hlt : l < k
        · have g := HCB.out l hlt
          by_cases h48 : B.getD l 0 = 48
          · rw [h48] at g
            have H48 : Hid _ := h48
            clear h48
            go_wp2_with fail
            go_round
            case rel => exact ⟨l + 1, by omega, by go_num, fun j hj => by
              by_cases e : j = l
              · rw [e]; exact H48.out
              · exact HLZ.out j (by omega)⟩
            case measure => simp [intOf]; omega
          · have g2 : (B.getD l 0 == 48) = false := by simpa using h48
            have hex : Hid (l = k ∨ B.getD l 0 ≠ 48) := Or.inr h48
            clear h48
            generalize hx : B.getD l 0 = x at g g2
            clear hx
            go_wp2_with fail
            go_loop [10] (fun i => ∃ h : Nat, l ≤ h ∧ h ≤ k ∧ i = .int .i64 h ∧ ∀ j, h ≤ j → j < k → B.getD j 0 = 48) (fun i => (intOf i).toNat)
            case atStart => exact ⟨k, hl, Nat.le_refl _, rfl, fun j h1 h2 => absurd h2 (by omega)⟩
            case round =>
              obtain ⟨h, hlh, hhk, rfl, hhz⟩ := hrel
              have HHZ : Hid _ := hhz
              clear hhz
              by_cases hlt3 : l < h
              · obtain ⟨h, rfl⟩ : ∃ h', h = h' + 1 := ⟨h - 1, by omega⟩
                have g3 := HCB.out h (by omega)
                by_cases h48 : B.getD h 0 = 48
                · rw [h48] at g3
                  have H48 : Hid _ := h48
                  clear h48
                  go_wp2_with fail
                  go_round
                  case rel => exact ⟨h, by omega, by omega, rfl, fun j h1 h2 => by
                    by_cases e : j = h
                    · rw [e]; exact H48.out
                    · exact HHZ.out j (by omega) h2⟩
                  case measure => simp [intOf]
                · have g4 : (B.getD h 0 == 48) = false := by simpa using h48
                  have hex3 : Hid (l = h + 1 ∨ B.getD (h + 1 - 1) 0 ≠ 48) := Or.inr h48
                  clear h48
                  generalize hx3 : B.getD h 0 = x3 at g3 g4
                  clear hx3
                  have ⟨c0, c1, c2, d0, d1, d2, d3, d4, hfz, hsz, hbl⟩ := bfacts hnx
                  obtain ⟨S, hS, hconv⟩ := conv_row wr (w.heap.size + 1 + 1) l (h + 1) k B HB.out HCB.out (by omega) (by omega)
                  have hW := wf_row HBD.out hS (by omega) (by rw [HB.out]; omega) (by rw [HB.out]; exact hlen) (by rcases hex.out with h0 | h0; omega; exact h0) (by rcases hex3.out with h0 | h0; omega; exact h0)
                  have HS : Hid _ := hS
                  clear hS
                  have hne : (S.toList == []) = false := by rw [Lib.toList_data]; simpa using hW.1.ne
                  have hne2 : S.toList.isEmpty = false := by rw [Lib.toList_data]; simpa using hW.1.ne
                  go_wp2_with fail
                  refine (nv_any _ S _ hW.2 hW.1.digs _).mono ?_
                  rintro r w3 ⟨kd, ng, n, st, hV, rfl, hb3⟩
                  have hn3 : Below (w.heap.size + 2) (W1 w neg a k cap e) w3 := hnx.trans (hb3.mono hsz)
                  clear c0 c1 c2 d0 d1 d2 d3 d4 hfz hsz hbl
                  have ⟨c0, c1, c2, d0, d1, d2, d3, d4, hfz, hsz, hbl⟩ := bfacts hn3
                  have hs0 : w.heap.size < w3.heap.size := by omega
                  have hs1 : w.heap.size + 1 < w3.heap.size := by omega
                  cases neg
                  all_goals
                    go_wp2_with fail
                    go_region
                    go_wp2_with fail
                    refine bodyPost_ret (v := .tuple #[.agg #[.int .u8 kd, .bool ng, .int .i64 n, .string st, .pointer none], .int .i64 (sg _), .int .i64 e, .string S]) ?_ rfl ⟨S, _, hW.1, hW.2, hV, rfl, ?_⟩
                    · simp [results, Yba.results5, go_sem, sg, d0, d1, d2, d3, d4, hs1, World.cell?_alloc_past]
                    · exact ((((((hbl.setCell (by simp) _).setCell (by simp) _).setCell (by simp) _).setCell (by simp) _).setCell (by simp) _).alloc (by simp [World.setCell]; omega) _).drew
              · have hex3 : Hid (l = h ∨ B.getD (h - 1) 0 ≠ 48) := Or.inl (by omega)
                have hlh' : h = l := by omega
                subst hlh'
                have ⟨c0, c1, c2, d0, d1, d2, d3, d4, hfz, hsz, hbl⟩ := bfacts hnx
                obtain ⟨S, hS, hconv⟩ := conv_row wr (w.heap.size + 1 + 1) h h k B HB.out HCB.out (by omega) (by omega)
                have hS0 : S = ⟨#[]⟩ := by
                  cases S; simp at hS; simp [hS]
                subst hS0
                simp only [Nat.sub_self] at hconv
                clear hS hlh hlt3
                go_wp2_with fail
                refine (nv_any _ ⟨#[49]⟩ _ (by decide) wf_one.digs _).mono ?_
                rintro r w3 ⟨kd, ng, n, st, hV, rfl, hb3⟩
                have hn3 : Below (w.heap.size + 2) (W1 w neg a k cap e) w3 := hnx.trans (hb3.mono hsz)
                clear c0 c1 c2 d0 d1 d2 d3 d4 hfz hsz hbl
                have ⟨c0, c1, c2, d0, d1, d2, d3, d4, hfz, hsz, hbl⟩ := bfacts hn3
                have hs0 : w.heap.size < w3.heap.size := by omega
                have hs1 : w.heap.size + 1 < w3.heap.size := by omega
                cases neg
                all_goals
                  go_wp2_with fail
                  go_region
                  go_wp2_with fail
                  refine bodyPost_ret (v := .tuple #[.agg #[.int .u8 kd, .bool ng, .int .i64 n, .string st, .pointer none], .int .i64 (sg _), .int .i64 e, .string ⟨#[49]⟩]) ?_ rfl ⟨⟨#[49]⟩, _, wf_one, by decide, hV, rfl, ?_⟩
                  · simp [results, Yba.results5, go_sem, sg, d0, d1, d2, d3, d4, hs1, World.cell?_alloc_past]
                  · exact ((((((hbl.setCell (by simp) _).setCell (by simp) _).setCell (by simp) _).setCell (by simp) _).setCell (by simp) _).alloc (by simp [World.setCell]; omega) _).drew
        · obtain rfl : l = k := by omega
          clear hlt hl
          go_wp2_with fail
          go_loop [10] (fun i => i = .int .i64 (l : Int)) (fun i => (intOf i).toNat)
          case atStart => exact rfl
          case round =>
            obtain rfl := hrel
            have ⟨c0, c1, c2, d0, d1, d2, d3, d4, hfz, hsz, hbl⟩ := bfacts hnx
            have hconv : (convert 22 9 (.slice (some ⟨w.heap.size + 1 + 1, 0, none⟩) 0 0)).run Yba.prog wr = .ok (.string ⟨#[]⟩) wr :=
              run_convert_bytes_arg wr 22 5 Yba.underlying22 Yba.underlying5 (w.heap.size + 1 + 1) 0 0 0 [] rfl (fun i hi => absurd hi (Nat.not_lt_zero _)) 9 Yba.underlying9
            go_wp2_with fail
            refine (nv_any _ ⟨#[49]⟩ _ (by decide) wf_one.digs _).mono ?_
            rintro r w3 ⟨kd, ng, n, st, hV, rfl, hb3⟩
            have hn3 : Below (w.heap.size + 2) (W1 w neg a l cap e) w3 := hnx.trans (hb3.mono hsz)
            clear c0 c1 c2 d0 d1 d2 d3 d4 hfz hsz hbl
            have ⟨c0, c1, c2, d0, d1, d2, d3, d4, hfz, hsz, hbl⟩ := bfacts hn3
            have hs0 : w.heap.size < w3.heap.size := by omega
            have hs1 : w.heap.size + 1 < w3.heap.size := by omega
            cases neg
            all_goals
              go_wp2_with fail
              go_region
              go_wp2_with fail
              refine bodyPost_ret (v := .tuple #[.agg #[.int .u8 kd, .bool ng, .int .i64 n, .string st, .pointer none], .int .i64 (sg _), .int .i64 e, .string ⟨#[49]⟩]) ?_ rfl ⟨⟨#[49]⟩, _, wf_one, by decide, hV, rfl, ?_⟩
              · simp [results, Yba.results5, go_sem, sg, d0, d1, d2, d3, d4, hs1, World.cell?_alloc_past]
              · exact ((((((hbl.setCell (by simp) _).setCell (by simp) _).setCell (by simp) _).setCell (by simp) _).setCell (by simp) _).alloc (by simp [World.setCell]; omega) _).drew
end Go.Proofs.Ybulkclsa
