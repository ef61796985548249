import Derived.Test.YbulkclsoNod
import Derived.Test.YbulkclsoBuild
import Derived.Test.YbulkclsoOpen
import Derived.Laws.MakeOwn
import Derived.Laws.OwnMore
import Derived.Lib.Builder
namespace Go.Proofs.Ybulkclso
open Go.RowKit Go.Maps

theorem ZRaw.ok {w : World} {v : Zv} {z : Zt} (h : ZRaw w v z) (s : Small z) : ZOk w v z :=
  ⟨h.ecs, h.pcs, h.scs, h.hcs, h.jcs, h.en, h.pn, h.sn, s.el, s.pl, s.sl, s.hl, s.jl, h.eu, h.pu, h.su, h.hu, h.ju, h.au, h.wu⟩

theorem Yba.info54 : (Yba.prog.info? 54).map (fun i => (i.zero, i.size, i.bytes)) = some (some (.pointer none), 1, 8) := by kernel_rfl

theorem Yba.info88 : (Yba.prog.info? 88).isSome = true := by kernel_rfl
theorem neq54 (b : Nat) (W : World) : (binOp .neq 54 (.pointer (some ⟨b, 0, none⟩)) (.pointer (some ⟨b, 0, none⟩))).run Yba.prog W = .ok (.bool false) W := by
  obtain ⟨j, hj⟩ := Option.isSome_iff_exists.1 Yba.info88
  exact Lib.run_neq_ptr_same W _ Yba.underlying54 hj

/-- Behind k rounds of the loop that builds. -/
structure BInv (R n : Nat) (rs : List Rec) (zs : List Zt) (wx : World) : Prop where
  row : ∃ cur, wx.heap[R]? = some (.cells cur 54 (0, 0)) ∧ cur.size = n
  cells : ∀ i, i < rs.length → wx.cell? ⟨R, i, none⟩ = some (.pointer (some ⟨(rs.getD i r0).b, 0, none⟩))
  tabs : ∀ i, i < rs.length → TabB wx (rs.getD i r0) (zs.getD i z0)
  lo : ∀ i, i < rs.length → R < (rs.getD i r0).lo
  apart : Apart rs

theorem getD_snoc_lt {α : Type} (d : α) {l : List α} {x : α} {i : Nat} (h : i < l.length) : (l ++ [x]).getD i d = l.getD i d := by simp [List.getD, List.getElem?_append_left h]
theorem getD_snoc_eq {α : Type} (d : α) {l : List α} {x : α} : (l ++ [x]).getD l.length d = x := by simp [List.getD]

theorem BInv.cellR {R n : Nat} {rs : List Rec} {zs : List Zt} {wx w3 : World} (h : BInv R n rs zs wx) (hb : Below wx.heap.size wx w3) {k : Nat} (hk : k < n) : ∃ u, w3.cell? ⟨R, k, none⟩ = some u ∧ w3.frozen? ⟨R, k, none⟩ = false := by
  obtain ⟨cur, h1, h2⟩ := h.row
  have h3 := (hb.block R (Array.getElem?_eq_some_iff.1 h1).1).trans h1
  exact ⟨cur[k]'(by omega), by simp [World.cell?, h3], frozen_of_cells h3 _⟩

theorem BInv.step {R n : Nat} {rs : List Rec} {zs : List Zt} {wx w3 : World} {r : Rec} (h : BInv R n rs zs wx) (hb : Below wx.heap.size wx w3) (hlo : wx.heap.size ≤ r.lo) (hk : rs.length < n) (hT : TabB w3 r (zs.getD rs.length z0)) :
    BInv R n (rs ++ [r]) zs (w3.setCell ⟨R, rs.length, none⟩ (.pointer (some ⟨r.b, 0, none⟩))) := by
  obtain ⟨cur, h1, h2⟩ := h.row
  have hRx := (Array.getElem?_eq_some_iff.1 h1).1
  have h3 := (hb.block R hRx).trans h1
  obtain ⟨u, hu, _⟩ := h.cellR hb hk
  have hsz : (w3.setCell ⟨R, rs.length, none⟩ (.pointer (some ⟨r.b, 0, none⟩))).heap.size = w3.heap.size := by simp
  have hkc : ∀ k, k ≠ R → (w3.setCell ⟨R, rs.length, none⟩ (.pointer (some ⟨r.b, 0, none⟩))).heap[k]? = w3.heap[k]? := fun k hk => Below.heap_setCell _ _ _ _ hk
  refine ⟨⟨_, setCell_obj h3 _, by simp [h2]⟩, fun i hi => ?_, fun i hi => ?_, fun i hi => ?_, fun i j hij hj => ?_⟩
  · rw [List.length_append] at hi
    by_cases e : i = rs.length
    · subst e
      rw [getD_snoc_eq, World.cell?_setCell_same _ _ _ hu]
    · have hi' : i < rs.length := by simp at hi; omega
      rw [getD_snoc_lt r0 hi', World.cell?_setCell_other _ _ _ _ (by intro e1; injection e1; omega)]
      exact (hb.cell (World.block_lt_of_cell? _ _ (h.cells i hi'))).trans (h.cells i hi')
  · rw [List.length_append] at hi
    by_cases e : i = rs.length
    · subst e
      rw [getD_snoc_eq]
      exact hT.keep (by rw [hsz]; exact hT.hi.1) (fun k h4 _ => hkc k (by omega))
    · have hi' : i < rs.length := by simp at hi; omega
      rw [getD_snoc_lt r0 hi']
      have ht := h.tabs i hi'
      have hl := h.lo i hi'
      exact ht.keep (by rw [hsz]; exact Nat.le_trans ht.hi.1 hb.size) (fun k h4 h5 => (hkc k (by omega)).trans (hb.block k (by have := ht.hi.1; omega)))
  · rw [List.length_append] at hi
    by_cases e : i = rs.length
    · subst e; rw [getD_snoc_eq]; omega
    · have hi' : i < rs.length := by simp at hi; omega
      rw [getD_snoc_lt r0 hi']; exact h.lo i hi'
  · rw [List.length_append] at hj
    by_cases e : j = rs.length
    · subst e
      rw [getD_snoc_eq, getD_snoc_lt r0 hij]
      have := (h.tabs i hij).hi.1
      omega
    · have hj' : j < rs.length := by simp at hj; omega
      rw [getD_snoc_lt r0 hj', getD_snoc_lt r0 (by omega)]
      exact h.apart i j hij hj'

/-- What the last loop's call of check may lean on. -/
abbrev SXl (W : World) (N R k : Nat) (v : Zv) (z : Zt) (rb : Nat) (w' : World) : Prop :=
  w'.cell? ⟨N, 0, none⟩ = some (.slice v.pe z.E.length v.ce) ∧ w'.cell? ⟨N, 1, none⟩ = some (.slice v.pp z.P.length v.cp) ∧ w'.cell? ⟨N, 2, none⟩ = some (.slice v.ps z.S.length v.cs) ∧
  w'.cell? ⟨N, 3, none⟩ = some (.slice v.ph z.H.length v.ch) ∧ w'.cell? ⟨N, 4, none⟩ = some (.slice v.pj z.J.length v.cj) ∧ w'.cell? ⟨N, 5, none⟩ = some (.int .u64 z.age) ∧ w'.cell? ⟨N, 6, none⟩ = some (.int .u64 z.wr) ∧
  w'.cell? ⟨R, k, none⟩ = some (.pointer (some ⟨rb, 0, none⟩)) ∧ Below W.heap.size W w'

set_option maxRecDepth 100000 in
set_option maxHeartbeats 8000000 in
theorem exlaw_any (p : Option Addr) (cap : Nat) (vs : List Zv) (zs : List Zt) (keep : Int) (w : World) (hvl : vs.length = zs.length) (uK : U64 keep)
    (hrow : ∀ i, i < zs.length → ∃ b o, p = some ⟨b, o, none⟩ ∧ ZAt w b (o + i * 7) (vs.getD i v0) (zs.getD i z0)) (hraw : ∀ i, i < zs.length → ZRaw w (vs.getD i v0) (zs.getD i z0)) :
    Calls Yba.prog 4 #[.slice p zs.length cap, .int .u64 keep] w fun e w' => e = .returned (.bool true) ∧ Below w.heap.size w w' := by
  by_cases hbig : 256 < zs.length
  · have hb' : (256 : Int) < zs.length := by omega
    clear hrow hraw
    go_enter Yba.func4, Yba.ntmps4
    go_wp2_with fail
    go_ret
    exact ⟨rfl, Below.refl _ _⟩
  · have hb' : ¬ (256 : Int) < zs.length := by omega
    have HROW : Hid _ := hrow
    have HRAW : Hid _ := hraw
    clear hrow hraw
    go_enter Yba.func4, Yba.ntmps4
    go_wp2_with fail
    go_loopw [18] (fun si wx => ∃ k : Nat, k ≤ zs.length ∧ si = .int .i64 k ∧ Below w.heap.size w wx ∧ ∀ i, i < k → Small (zs.getD i z0)) (fun si _ => (zs.length - intOf si).toNat)
    case atStart => exact ⟨0, by omega, rfl, Below.refl _ _, fun i hi => absurd hi (Nat.not_lt_zero _)⟩
    case round =>
      obtain ⟨k, hk, rfl, hB, hsm⟩ := hrel
      have HSM : Hid _ := hsm
      have HB : Hid _ := hB
      clear hsm
      by_cases hlt : k < zs.length
      · obtain ⟨b, o, rfl, hz⟩ := HROW.out k hlt
        obtain ⟨d0, d1, d2, d3, d4, d5, d6⟩ := hz.keep hB
        obtain ⟨z, hzz⟩ : ∃ z, z = zs.getD k z0 := ⟨_, rfl⟩
        rw [← hzz] at d0 d1 d2 d3 d4 d5 d6
        have HZZ : Hid _ := hzz
        clear hzz hz hB
        generalize vs.getD k v0 = v at *
        by_cases h0 : (1024 : Int) < z.E.length
        · go_wp2_with fail
          go_ret
          exact ⟨rfl, bs_alloc HB.out _⟩
        · by_cases h1 : (1024 : Int) < z.P.length
          · go_wp2_with fail
            go_ret
            exact ⟨rfl, bs_alloc HB.out _⟩
          · by_cases h2 : (1024 : Int) < z.S.length
            · go_wp2_with fail
              go_ret
              exact ⟨rfl, bs_alloc HB.out _⟩
            · by_cases h3 : (1024 : Int) < z.H.length
              · go_wp2_with fail
                go_ret
                exact ⟨rfl, bs_alloc HB.out _⟩
              · by_cases h4 : (1024 : Int) < z.J.length
                · go_wp2_with fail
                  go_ret
                  exact ⟨rfl, bs_alloc HB.out _⟩
                · go_wp2_with fail
                  go_roundw
                  case rel => exact ⟨k + 1, by omega, by go_num, bs_alloc HB.out _, fun i hi => by
                    rcases Nat.lt_succ_iff_lt_or_eq.1 hi with h | rfl
                    · exact HSM.out i h
                    · rw [← HZZ.out]; exact ⟨by omega, by omega, by omega, by omega, by omega⟩⟩
                  case measure => simp [intOf]; omega
      · obtain rfl : k = zs.length := by omega
        clear hB
        obtain ⟨i0, hi0, hz0, hz1, hz2⟩ := info_parts Yba.info54
        obtain ⟨cur, hcur⟩ : ∃ cur, cur = madeCells (Value.pointer none).cells (zs.length * 1) := ⟨_, rfl⟩
        obtain ⟨W2, hW2⟩ : ∃ W2, wr.alloc (.cells cur 54) = W2 := ⟨_, rfl⟩
        have hcs : cur.size = zs.length := by rw [hcur, size_madeCells]; omega
        have hmk : (Instr.makeSlice 53 (.int .i64 (zs.length : Int)) (.int .i64 (zs.length : Int))).run Yba.prog wr = .ok (.slice (some ⟨wr.heap.size, 0, none⟩) zs.length zs.length) W2 := by
          have h := run_make (P := Yba.prog) wr 53 54 i0 (.pointer none) Yba.underlying53 hi0 hz0 .i64 .i64 zs.length zs.length (by omega) (Int.le_refl _) (by rw [hz2]; omega) (by omega)
          rw [hz1] at h
          simp only [Int.toNat_natCast] at h
          rw [← hcur, hW2] at h
          exact h
        have hR2 : W2.heap[wr.heap.size]? = some (.cells cur 54 (0, 0)) := by rw [← hW2]; exact World.alloc_heap_new _ _
        have HB2 : Hid (Below w.heap.size w W2) := by rw [← hW2]; exact bs_alloc HB.out _
        have HWR : Hid (w.heap.size ≤ wr.heap.size) := HB.out.size
        have HR2 : Hid _ := hR2
        generalize wr.heap.size = R at *
        clear hW2 hcur hR2 HB
        go_wp2_with fail
        go_loopw [56] (fun si wx => ∃ (k : Nat) (rs : List Rec), k ≤ zs.length ∧ si = .int .i64 k ∧ rs.length = k ∧ Below w.heap.size w wx ∧ BInv R zs.length rs zs wx) (fun si _ => (zs.length - intOf si).toNat)
        case atStart => exact ⟨0, [], by omega, rfl, rfl, HB2.out, ⟨⟨_, HR2.out, hcs⟩, fun i hi => absurd hi (Nat.not_lt_zero _), fun i hi => absurd hi (Nat.not_lt_zero _), fun i hi => absurd hi (Nat.not_lt_zero _), fun i j _ hj => absurd hj (Nat.not_lt_zero _)⟩⟩
        case round =>
          clear HB2 HR2 hmk hcs
          obtain ⟨k, rs, hk, rfl, hrl, hB, hI⟩ := hrel
          have HB : Hid _ := hB
          have HI : Hid _ := hI
          by_cases hlt : k < zs.length
          · obtain ⟨b, o, rfl, hz⟩ := HROW.out k hlt
            obtain ⟨d0, d1, d2, d3, d4, d5, d6⟩ := hz.keep hB
            obtain ⟨z, hzz⟩ : ∃ z, z = zs.getD k z0 := ⟨_, rfl⟩
            have hraw := HRAW.out k hlt
            rw [← hzz] at d0 d1 d2 d3 d4 d5 d6 hraw
            have hsmk := HSM.out k hlt
            rw [← hzz] at hsmk
            have HZZ : Hid _ := hzz
            generalize vs.getD k v0 = v at *
            have HBU : Hid (∀ (X : Obj), Calls Yba.prog 10 #[.agg (zcells v z)] (wr.alloc X) fun e w' => ∃ rr : Rec, ∃ vJ, e = .returned (.pointer (some ⟨rr.b, 0, none⟩)) ∧ Below (wr.alloc X).heap.size (wr.alloc X) w' ∧ (wr.alloc X).heap.size ≤ rr.lo ∧ rr.hi = w'.heap.size ∧
                TabS w' rr z.E z.P z.S (setOf (.lit (.bool true)) (z.H.map (Lit.int .u64))) z.wr vJ z.J z.age) := fun X => build_any v z (wr.alloc X) ((hraw.ok hsmk).keep (bs_alloc hB X))
            unfold zcells at HBU
            clear hzz hz hB hI hraw hsmk
            go_wp2_with (go_at_call 10; refine (HBU.out _).mono ?_; rintro e w3 ⟨rr, vJ, rfl, hb3, hlo3, hhi3, hT3⟩; have HB3 : Hid (Below wr.heap.size wr w3) := bs_call (al _) hb3; have HLO : Hid (wr.heap.size ≤ rr.lo) := Nat.le_trans (al _).size hlo3; have HT3 : Hid (TabB w3 rr z) := ⟨_, hT3⟩; obtain ⟨u, hu, hfz⟩ := HI.out.cellR HB3.out hlt; clear hb3 hlo3 hhi3 hT3)
            go_roundw
            case rel =>
              subst hrl
              have hst := HI.out.step HB3.out HLO.out hlt (by rw [← HZZ.out]; exact HT3.out)
              exact ⟨rs.length + 1, rs ++ [rr], by omega, by go_num, by simp, (bs_call HB.out HB3.out).setCell (by have := HWR.out; exact this) _, hst⟩
            case measure => simp [intOf]; omega
          · obtain rfl : k = zs.length := by omega
            have hwr := HWR.out
            obtain ⟨cu, hcu, _⟩ := hI.row
            have hRw : R < wr.heap.size := (Array.getElem?_eq_some_iff.1 hcu).1
            obtain ⟨NB, hNB⟩ : ∃ NB : Obj, NB = .cells #[.pointer none, .nilIface, .int .u64 0, .int .u64 0, .int .i64 0, .slice none 0 0, .slice (some ⟨R, 0, none⟩) zs.length zs.length, .int .i64 0, .map none] 63 := ⟨_, rfl⟩
            have HN6 : Hid ((wr.alloc NB).cell? ⟨wr.heap.size, 6, none⟩ = some (.slice (some ⟨R, 0, none⟩) zs.length zs.length)) := by
              show _ = _
              rw [hNB]; simp
            have HTN : Hid (Tabs rs zs keep 0 (wr.alloc NB)) := ⟨fun i hi => absurd hi (Nat.not_lt_zero _), fun i _ hi => (hI.tabs i (by omega)).keep (Nat.le_trans (hI.tabs i (by omega)).hi.1 (al NB).size) (fun m _ hm2 => Below.heap_alloc _ _ _ (Nat.lt_of_lt_of_le hm2 (hI.tabs i (by omega)).hi.1))⟩
            have HTS : Hid (∀ i, i < zs.length → R < (rs.getD i r0).lo ∧ (wr.alloc NB).cell? ⟨R, i, none⟩ = some (.pointer (some ⟨(rs.getD i r0).b, 0, none⟩))) := fun i hi => ⟨hI.lo i (by omega), ((al NB).cell (by show R < wr.heap.size; omega)).trans (hI.cells i (by omega))⟩
            have HSN : Hid (∀ i, i < zs.length → Small (zs.getD i z0) ∧ Nums (zs.getD i z0)) := fun i hi => ⟨HSM.out i hi, (HRAW.out i hi).eu, (HRAW.out i hi).pu, (HRAW.out i hi).su, (HRAW.out i hi).hu, (HRAW.out i hi).wu⟩
            have HAP : Hid (Apart rs) := hI.apart
            have HNX := nodeExp_any wr.heap.size R zs.length rs zs keep (wr.alloc NB) hrl (by omega) uK HAP.out HTN.out HSN.out HTS.out HN6.out
            have HBN : Hid (Below w.heap.size w (wr.alloc NB)) := bs_alloc hB _
            have HH : Hid (∀ i, i < zs.length → (rs.getD i r0).hi ≤ wr.heap.size) := fun i hi => (hI.tabs i (by omega)).hi.1
            have HO : Hid (∀ W7, Out rs zs.length (wr.alloc NB) W7 → W7.cell? ⟨wr.heap.size, 6, none⟩ = some (.slice (some ⟨R, 0, none⟩) zs.length zs.length) ∧ (∀ i, i < zs.length → W7.cell? ⟨R, i, none⟩ = some (.pointer (some ⟨(rs.getD i r0).b, 0, none⟩))) ∧ Below w.heap.size w W7) := fun W7 hO =>
              ⟨(World.cell?_of_block (w := wr.alloc NB) (a := ⟨wr.heap.size, 6, none⟩) (hO.block wr.heap.size (by simp) (fun i hi => Or.inr (HH.out i hi)))).trans HN6.out,
               fun i hi => (World.cell?_of_block (w := wr.alloc NB) (a := ⟨R, i, none⟩) (hO.block R (by simp; omega) (fun j hj => Or.inl (HTS.out j hj).1))).trans (HTS.out i hi).2,
               ⟨hO.os.trans HBN.out.os, hO.tape.trans HBN.out.tape, hO.output.trans HBN.out.output, Nat.le_trans HBN.out.size hO.size, fun m hm => (hO.block m (by simp; omega) (fun j hj => Or.inl (by have := (HTS.out j hj).1; omega))).trans (HBN.out.block m hm)⟩⟩
            subst hNB
            clear hB hI hcu
            go_wp2_with (go_at_call 11; refine HNX.mono ?_; rintro e W7 ⟨⟨ve, rfl⟩, hT7, hO7⟩; obtain ⟨n6, hts7, hB7⟩ := HO.out W7 hO7; have HT7 : Hid (Tabs rs zs keep zs.length W7) := hT7; have HTS7 : Hid _ := hts7; have HB7 : Hid (Below w.heap.size w W7) := hB7; clear hO7 hT7 hts7 hB7)
            clear HNX HO HH HBN HAP HTN HTS HN6
            clear hRw HWR hwr
            generalize wr.heap.size = NN at n6 ⊢
            go_loopw [83] (fun si wx => ∃ k : Nat, k ≤ zs.length ∧ si = .int .i64 k ∧ Below W7.heap.size W7 wx) (fun si _ => (zs.length - intOf si).toNat)
            case atStart => exact ⟨0, by omega, rfl, Below.refl _ _⟩
            case round =>
              obtain ⟨k, hk2, rfl, hB3⟩ := hrel
              have HB3 : Hid _ := hB3
              by_cases hlt2 : k < zs.length
              · obtain ⟨b, o, rfl, hz⟩ := HROW.out k hlt2
                obtain ⟨d0, d1, d2, d3, d4, d5, d6⟩ := (hz.keep HB7.out).keep hB3
                obtain ⟨z, hzz⟩ : ∃ z, z = zs.getD k z0 := ⟨_, rfl⟩
                have hraw := HRAW.out k hlt2
                have hsmk := HSM.out k hlt2
                have hta := HT7.out.ta k hlt2
                rw [← hzz] at d0 d1 d2 d3 d4 d5 d6 hraw hsmk hta
                have y6 : wr.cell? ⟨NN, 6, none⟩ = some (.slice (some ⟨R, 0, none⟩) zs.length zs.length) := (hB3.cell (World.block_lt_of_cell? _ _ n6)).trans n6
                have yk : wr.cell? ⟨R, k, none⟩ = some (.pointer (some ⟨(rs.getD k r0).b, 0, none⟩)) := (hB3.cell (World.block_lt_of_cell? _ _ (HTS7.out k hlt2))).trans (HTS7.out k hlt2)
                have lNN : NN < wr.heap.size := World.block_lt_of_cell? _ _ y6
                have lR : R < wr.heap.size := World.block_lt_of_cell? _ _ yk
                generalize vs.getD k v0 = v at *
                generalize rs.getD k r0 = rr at *
                obtain ⟨Wz, hWz⟩ : ∃ Wz, wr.alloc (.cells #[.slice v.pe z.E.length v.ce, .slice v.pp z.P.length v.cp, .slice v.ps z.S.length v.cs, .slice v.ph z.H.length v.ch, .slice v.pj z.J.length v.cj, .int .u64 z.age, .int .u64 z.wr] 52) = Wz := ⟨_, rfl⟩
                have HBZ : Hid (Below wr.heap.size wr Wz) := by show Below _ _ _; rw [← hWz]; exact al _
                have b0 : Wz.cell? ⟨wr.heap.size, 0, none⟩ = some (.slice v.pe z.E.length v.ce) := by rw [← hWz]; simp
                have b1 : Wz.cell? ⟨wr.heap.size, 1, none⟩ = some (.slice v.pp z.P.length v.cp) := by rw [← hWz]; simp
                have b2 : Wz.cell? ⟨wr.heap.size, 2, none⟩ = some (.slice v.ps z.S.length v.cs) := by rw [← hWz]; simp
                have b3 : Wz.cell? ⟨wr.heap.size, 3, none⟩ = some (.slice v.ph z.H.length v.ch) := by rw [← hWz]; simp
                have b4 : Wz.cell? ⟨wr.heap.size, 4, none⟩ = some (.slice v.pj z.J.length v.cj) := by rw [← hWz]; simp
                have b5 : Wz.cell? ⟨wr.heap.size, 5, none⟩ = some (.int .u64 z.age) := by rw [← hWz]; simp
                have b6 : Wz.cell? ⟨wr.heap.size, 6, none⟩ = some (.int .u64 z.wr) := by rw [← hWz]; simp
                have x6 := (HBZ.out.cell (World.block_lt_of_cell? _ _ y6)).trans y6
                have xk := (HBZ.out.cell (World.block_lt_of_cell? _ _ yk)).trans yk
                obtain ⟨D', del, vJ, hTS, hs1, hs2, hs3⟩ := hta
                have HCK : Hid (∀ W', Below Wz.heap.size Wz W' → Calls Yba.prog 12 #[.agg (zcells v z), .pointer (some ⟨rr.b, 0, none⟩), .int .u64 keep] W' fun e w' => e = .returned (.bool true) ∧ Below W'.heap.size W' w') := fun W' hb =>
                  have hbb := bs_call (bs_call hB3 HBZ.out) hb
                  check_any v z rr D' del vJ keep W' ((hraw.ok hsmk).keep (bs_call HB7.out hbb)) uK (hTS.keep (Nat.le_trans hTS.hi hbb.size) (fun m _ hm => hbb.block m (Nat.lt_of_lt_of_le hm hTS.hi))) hs1 hs2 hs3
                have hneq := neq54 rr.b
                unfold zcells at HCK
                clear hz hB3 hraw hsmk hTS hs1 hs2 hs3 hzz y6 yk n6
                go_wp2_with fail
                go_quiet (fail)
                go_upto_region 24 with fail
                have kB : ∀ w', Below Wz.heap.size Wz w' → SXl Wz wr.heap.size R k v z rr.b w' := fun w' h => ⟨(h.cell (World.block_lt_of_cell? _ _ b0)).trans b0, (h.cell (World.block_lt_of_cell? _ _ b1)).trans b1, (h.cell (World.block_lt_of_cell? _ _ b2)).trans b2, (h.cell (World.block_lt_of_cell? _ _ b3)).trans b3, (h.cell (World.block_lt_of_cell? _ _ b4)).trans b4, (h.cell (World.block_lt_of_cell? _ _ b5)).trans b5, (h.cell (World.block_lt_of_cell? _ _ b6)).trans b6, (h.cell (World.block_lt_of_cell? _ _ xk)).trans xk, h⟩
                have KC : Hid (∀ w' w'', SXl Wz wr.heap.size R k v z rr.b w' → Below w'.heap.size w' w'' → SXl Wz wr.heap.size R k v z rr.b w'') := fun w' w'' h k => kB _ (bs_call h.2.2.2.2.2.2.2.2 k)
                have KD : Hid (SXl Wz wr.heap.size R k v z rr.b (Wz.drewN nq).drew) := kB _ (below_drewN (Below.refl _ _) nq).drew
                clear kB b0 b1 b2 b3 b4 b5 b6 xk x6 hWz d0 d1 d2 d3 d4 d5 d6 hneq
                go_region_held3 (fun w' => SXl Wz wr.heap.size R k v z rr.b w') (first | exact KD.out | exact KC.out _ _ (by assumption) (by assumption))
                  (first | (go_at_call 12; refine (HCK.out _ (by assumption : SXl Wz wr.heap.size R k v z rr.b _).2.2.2.2.2.2.2.2).mono ?_; rintro e w' ⟨rfl, hbq⟩))
                go_wp2_with fail
                go_roundw
                case rel => exact ⟨k + 1, by omega, by go_num, bs_call (bs_call HB3.out HBZ.out) (by assumption : SXl Wz wr.heap.size R k v z rr.b _).2.2.2.2.2.2.2.2⟩
                case measure => simp [intOf]; omega
              · obtain rfl : k = zs.length := by omega
                clear hB3
                go_wp2_with fail
                go_ret
                exact ⟨rfl, bs_call HB7.out HB3.out⟩
end Go.Proofs.Ybulkclso
