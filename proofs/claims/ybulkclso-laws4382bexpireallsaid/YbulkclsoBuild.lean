import Derived.Test.YbulkclsoApp
import Derived.Deep.RegionLaw
namespace Go.Proofs.Ybulkclso
open Go.RowKit Go.Maps

theorem RowIn.below {w w' : World} {lo hi : Nat} {q : Option Addr} {xs : List Int} (h : RowIn w lo hi q xs) (hh : hi ≤ w.heap.size) (hb : Below w.heap.size w w') : RowIn w' lo hi q xs := h.keep fun k _ h2 => hb.block k (by omega)


theorem RowIn.up {w w' : World} {lo lo' : Nat} {q : Option Addr} {xs : List Int} (h : RowIn w lo w.heap.size q xs) (hb : Below w.heap.size w w') (hl : lo' ≤ lo) : RowIn w' lo' w'.heap.size q xs :=
  (h.below (Nat.le_refl _) hb).mono hl hb.size
theorem HMap.up {w w' : World} {m n : Nat} {D : DataW Unit} (h : HMap w m n D) (hb : Below w.heap.size w w') : HMap w' m n D := by
  obtain ⟨es, clock, h1, rest⟩ := h
  exact ⟨es, clock, (hb.block m (Array.getElem?_eq_some_iff.1 h1).1).trans h1, rest⟩
theorem HMap.made (w : World) : HMap (w.alloc (.map #[] 0)) w.heap.size 0 (.map []) := World.ownsMap_made w Yba.prog 22 hElem

theorem tab_new {W : World} {lo m : Nat} {qe qp qs : Option Addr} {E P S : List Int} (ce cp cs : Nat) (wr age : Int) (hE : RowIn W lo W.heap.size qe E) (hP : RowIn W lo W.heap.size qp P) (hS : RowIn W lo W.heap.size qs S)
    (hm : HMap W m 0 (.map [])) (hlo : lo ≤ m) :
    TabS (W.alloc (TObj (.slice qp P.length cp) (.slice qs S.length cs) (.slice qe E.length ce) m wr (.slice none 0 0) age)) ⟨lo, W.heap.size + 1, W.heap.size, m, 0, qe, ce, qp, cp, qs, cs⟩ E P S (.map []) wr (.slice none 0 0) [] age where
  mlo := hlo
  mb := hm.lt
  bhi := Nat.lt_succ_self _
  hi := by simp
  obj := World.alloc_heap_new _ _
  ecs := hE.below (Nat.le_refl _) (al _)
  pcs := hP.below (Nat.le_refl _) (al _)
  scs := hS.below (Nat.le_refl _) (al _)
  map := HMap.up hm (al _)
  row := World.ownsRow_nil _ _ _ _
  rhi := fun k h => by simp [Value.ownBlock] at h

theorem mkCut {W wx : World} {N : Nat} {E P S : List Int} {wr age : Int} {s3 : Value} {r : Rec} (hT : TabS wx r E P S (.map []) wr (.slice none 0 0) [] age) (h1 : s3 = .pointer (some ⟨r.b, 0, none⟩)) (h2 : r.lo = N) (h3 : r.n = 0) (h4 : Below W.heap.size W wx) :
    ∃ r : Rec, s3 = .pointer (some ⟨r.b, 0, none⟩) ∧ Below W.heap.size W wx ∧ r.lo = N ∧ r.n = 0 ∧ TabS wx r E P S (.map []) wr (.slice none 0 0) [] age := ⟨r, h1, h4, h2, h3, hT⟩

theorem take_snoc {α : Type} (d : α) {l : List α} {k : Nat} (h : k < l.length) : l.take (k + 1) = l.take k ++ [l.getD k d] := by
  rw [List.take_add_one]
  simp [List.getD, h]

theorem Yba.info94 : (Yba.prog.info? 94).map (fun i => (i.zero, i.size, i.bytes)) = some (some (.agg #[.int .u64 0, .int .u64 0, .int .u64 0]), 3, 24) := by kernel_rfl

/-- What build's first region may lean on. -/
abbrev SBd (W : World) (N : Nat) (v : Zv) (z : Zt) (w' : World) : Prop :=
  w'.cell? ⟨N, 1, none⟩ = some (.slice v.pp z.P.length v.cp) ∧ w'.cell? ⟨N, 2, none⟩ = some (.slice v.ps z.S.length v.cs) ∧ w'.cell? ⟨N, 0, none⟩ = some (.slice v.pe z.E.length v.ce) ∧
  w'.cell? ⟨N, 5, none⟩ = some (.int .u64 z.age) ∧ w'.cell? ⟨N, 6, none⟩ = some (.int .u64 z.wr) ∧ Below W.heap.size W w'

set_option maxHeartbeats 4000000 in
theorem build_any (v : Zv) (z : Zt) (w : World) (hz : ZOk w v z) :
    Calls Yba.prog 10 #[.agg (zcells v z)] w fun e w' => ∃ r : Rec, ∃ vJ, e = .returned (.pointer (some ⟨r.b, 0, none⟩)) ∧ Below w.heap.size w w' ∧ w.heap.size ≤ r.lo ∧ r.hi = w'.heap.size ∧
      TabS w' r z.E z.P z.S (setOf (.lit (.bool true)) (z.H.map (Lit.int .u64))) z.wr vJ z.J z.age := by
  have hmm := @run_makeMap Yba.prog
  obtain ⟨i0, hi, hz0, hz1, hz2⟩ := info_parts Yba.info94
  obtain ⟨W, hW⟩ : ∃ W, w.alloc (.cells (zcells v z) 52) = W := ⟨_, rfl⟩
  have hN : W.heap.size = w.heap.size + 1 := by rw [← hW]; simp
  have c0 : W.cell? ⟨w.heap.size, 0, none⟩ = some (.slice v.pe z.E.length v.ce) := by rw [← hW]; simp [zcells]
  have c1 : W.cell? ⟨w.heap.size, 1, none⟩ = some (.slice v.pp z.P.length v.cp) := by rw [← hW]; simp [zcells]
  have c2 : W.cell? ⟨w.heap.size, 2, none⟩ = some (.slice v.ps z.S.length v.cs) := by rw [← hW]; simp [zcells]
  have c3 : W.cell? ⟨w.heap.size, 3, none⟩ = some (.slice v.ph z.H.length v.ch) := by rw [← hW]; simp [zcells]
  have c4 : W.cell? ⟨w.heap.size, 4, none⟩ = some (.slice v.pj z.J.length v.cj) := by rw [← hW]; simp [zcells]
  have c5 : W.cell? ⟨w.heap.size, 5, none⟩ = some (.int .u64 z.age) := by rw [← hW]; simp [zcells]
  have c6 : W.cell? ⟨w.heap.size, 6, none⟩ = some (.int .u64 z.wr) := by rw [← hW]; simp [zcells]
  have hb0 : Below w.heap.size w W := by rw [← hW]; exact (Below.refl _ _).alloc (Nat.le_refl _) _
  have hzW := hz.keep hb0
  have hWz : w.alloc (.cells #[.slice v.pe z.E.length v.ce, .slice v.pp z.P.length v.cp, .slice v.ps z.S.length v.cs, .slice v.ph z.H.length v.ch, .slice v.pj z.J.length v.cj, .int .u64 z.age, .int .u64 z.wr] 52) = W := hW
  go_enter Yba.func10, Yba.ntmps10
  unfold zcells
  go_upto_region 1 with fail
  have hzO : Hid _ := hz
  clear hz hW hWz
  have kB : ∀ w', Below W.heap.size W w' → SBd W w.heap.size v z w' := fun w' h => ⟨(h.cell (by simp [hN])).trans c1, (h.cell (by simp [hN])).trans c2, (h.cell (by simp [hN])).trans c0, (h.cell (by simp [hN])).trans c5, (h.cell (by simp [hN])).trans c6, h⟩
  have kA : ∀ w' o, SBd W w.heap.size v z w' → SBd W w.heap.size v z (w'.alloc o) := fun w' o h => kB _ (bs_alloc h.2.2.2.2.2 o)
  have kC : ∀ w' w'', SBd W w.heap.size v z w' → Below w'.heap.size w' w'' → SBd W w.heap.size v z w'' := fun w' w'' h k => kB _ (bs_call h.2.2.2.2.2 k)
  have kD : SBd W w.heap.size v z W.drew := kB _ (Below.refl _ _).drew
  have kP : ∀ w', SBd W w.heap.size v z w' → Cs w' v.pp z.P := fun w' h => hzW.pcs.keep h.2.2.2.2.2
  have kS : ∀ w', SBd W w.heap.size v z w' → Cs w' v.ps z.S := fun w' h => hzW.scs.keep h.2.2.2.2.2
  have kE : ∀ w', SBd W w.heap.size v z w' → Cs w' v.pe z.E := fun w' h => hzW.ecs.keep h.2.2.2.2.2
  have KB : Hid _ := kB
  have KA : Hid _ := kA
  have KC : Hid _ := kC
  have KD : Hid _ := kD
  have KP : Hid _ := kP
  have KS : Hid _ := kS
  have KE : Hid _ := kE
  clear kB kA kC kD kP kS kE
  go_cut [3] (fun s3 wx => ∃ r : Rec, s3 = .pointer (some ⟨r.b, 0, none⟩) ∧ Below W.heap.size W wx ∧ r.lo = W.heap.size ∧ r.n = 0 ∧ TabS wx r z.E z.P z.S (.map []) z.wr (.slice none 0 0) [] z.age)
  case first =>
    clear c0 c1 c2 c3 c4 c5 c6
    go_region_held3 (fun w' => SBd W w.heap.size v z w') (first | exact KD.out | exact KA.out _ _ (by assumption) | exact KC.out _ _ (by assumption) (by assumption))
      (first | (go_at_call 22; refine (clone_any v.pp v.cp z.P _ hzO.out.pl (KP.out _ (by assumption)) hzO.out.pn).mono ?_; rintro e wP ⟨qp, cqp, rfl, hbp, hrp⟩)
             | (go_at_call 22; refine (clone_any v.ps v.cs z.S _ hzO.out.sl (KS.out _ (by assumption)) hzO.out.sn).mono ?_; rintro e wS ⟨qs, cqs, rfl, hbs, hrs⟩)
             | (go_at_call 22; refine (clone_any v.pe v.ce z.E _ hzO.out.el (KE.out _ (by assumption)) hzO.out.en).mono ?_; rintro e wE ⟨qe, cqe, rfl, hbe, hre⟩))
    all_goals go_wp2_with fail
    all_goals go_meet
    all_goals have hHB := (by assumption : SBd W w.heap.size v z _).2.2.2.2.2
    all_goals have hlo : W.heap.size ≤ W.drew.heap.size := Nat.le_refl _
    all_goals have hdz : W.drew.heap.size = W.heap.size := rfl
    · have hT := tab_new cqe cqp cqs z.wr z.age (hre.up (al (.map #[] 0)) (lo' := W.heap.size) (by have := hbs.size; have := hbp.size; omega)) (hrp.up (bs_alloc (bs_call hbs hbe) _) hlo) (hrs.up (bs_alloc hbe _) (by have := hbp.size; omega)) (HMap.made _) (by have := hbe.size; have := hbs.size; have := hbp.size; omega)
      rw [World.size_alloc] at hT
      exact mkCut hT rfl rfl rfl hHB
    · have hbe' := bs_call (al (w := wS) (.map #[] 0)) hbe
      have hT := tab_new cqe cqp cqs z.wr z.age (hre.mono (lo' := W.heap.size) (by have := hbs.size; have := hbp.size; simp; omega) (Nat.le_refl _)) (hrp.up (bs_call hbs hbe') hlo) (hrs.up hbe' (by have := hbp.size; omega)) (HMap.up (HMap.made _) hbe) (by have := hbs.size; have := hbp.size; omega)
      exact mkCut hT rfl rfl rfl hHB
    · have hbs' := bs_call (al (w := wP) (.map #[] 0)) hbs
      have hT := tab_new cqe cqp cqs z.wr z.age (hre.mono (lo' := W.heap.size) (by have := hbs'.size; have := hbp.size; omega) (Nat.le_refl _)) (hrp.up (bs_call hbs' hbe) hlo) (hrs.up hbe (by have := hbp.size; have : W.drew.heap.size = W.heap.size := rfl; simp; omega)) (HMap.up (HMap.up (HMap.made _) hbs) hbe) (by have := hbp.size; omega)
      exact mkCut hT rfl rfl rfl hHB
    · have hbp' := bs_call (al (w := W.drew) (.map #[] 0)) hbp
      have hT := tab_new cqe cqp cqs z.wr z.age (hre.mono (lo' := W.heap.size) (by have := hbs.size; have := hbp'.size; omega) (Nat.le_refl _)) (hrp.up (bs_call hbs hbe) (by simp <;> omega)) (hrs.up hbe (by have := hbp'.size; omega)) (HMap.up (HMap.up (HMap.up (w := (W.alloc (.map #[] 0)).drew) (HMap.made W) hbp) hbs) hbe) hlo
      rw [hN] at hT
      exact mkCut hT rfl hN.symm rfl hHB
  case rest =>
    obtain ⟨r, rfl, hBx, hlo, hn0, hT⟩ := hcut
    have hhl : (z.H.length : Int) ≤ 1024 := by have := hzW.hl; omega
    have hjl : (z.J.length : Int) ≤ 1024 := by have := hzW.jl; omega
    have HZ : Hid _ := hzW
    have HB0 : Hid _ := hb0
    have HT0 : Hid (TabS wc { r with n := 0 } z.E z.P z.S (setOf (.lit (.bool true)) ((z.H.take 0).map (Lit.int .u64))) z.wr (.slice none 0 0) [] z.age) := by
      have : { r with n := 0 } = r := by rw [← hn0]
      rw [this]; exact hT
    have g3 : wc.cell? ⟨w.heap.size, 3, none⟩ = some (.slice v.ph z.H.length v.ch) := (hBx.cell (by simp [hN])).trans c3
    have hBx' : Hid _ := hBx
    clear c0 c1 c2 c3 c5 c6 KB KA KC KD KP KS KE hzW hT hBx hb0
    go_wp2_with fail
    go_loopw [27] (fun si wr => ∃ k : Nat, k ≤ z.H.length ∧ si = .int .i64 k ∧ Below W.heap.size W wr ∧ TabS wr { r with n := k } z.E z.P z.S (setOf (.lit (.bool true)) ((z.H.take k).map (Lit.int .u64))) z.wr (.slice none 0 0) [] z.age) (fun si _ => (z.H.length - intOf si).toNat)
    case atStart => exact ⟨0, by omega, rfl, hBx'.out, HT0.out⟩
    case round =>
      clear HT0 hBx'
      obtain ⟨k, hk, rfl, hB, hT⟩ := hrel
      by_cases hlt : k < z.H.length
      · obtain ⟨b, o, hph, hc⟩ := (HZ.out.hcs.keep hB) k hlt
        have hx : U64 (z.H.getD k 0) := HZ.out.hu _ (by simp [List.getD, hlt])
        have hkey := keyOf_int_mk (P := Yba.prog) (k := 22) (q := .u64) Yba.underlying22 (wf_u64 hx)
        have hsn : setOf (.lit (.bool true) : DataW Unit) ((z.H.take (k + 1)).map (Lit.int .u64)) = (setOf (.lit (.bool true)) ((z.H.take k).map (Lit.int .u64))).put (Lit.int .u64 (z.H.getD k 0)) (.lit (.bool true)) := by
          rw [← setOf_snoc, take_snoc 0 hlt, List.map_append]; rfl
        have HSN : Hid _ := hsn
        obtain ⟨_, _, _, q10, _⟩ := hT.cellP
        have hown := hT.map
        have HT : Hid _ := hT
        have HB : Hid _ := hB
        generalize z.H.getD k 0 = x at *
        clear hT hB hsn hx
        rw [hph]
        go_wp2_with (at_mapUpdate; refine wpList_mapUpdate_own _ rfl _ _ _ 80 rfl 22 90 law22 Yba.underlying80 _ r.m k _ rfl hown (by unfold maxLen; have := HZ.out.hl; omega) _ _ _ rfl rfl hkey _ [] (hElem_hz) ?_; intro w1 hown1 hgrow1)
        go_roundw
        case rel =>
          refine ⟨k + 1, by omega, by go_num, ?_, by rw [HSN.out]; exact HT.out.setMap hgrow1 hown1⟩
          have h1 : r.lo ≤ r.m := HT.out.mlo
          exact HB.out.grown hgrow1 HB.out.size (fun j e => by cases e; omega)
        case measure => simp [intOf]; omega
      · obtain rfl : k = z.H.length := by omega
        have g4 : wr.cell? ⟨w.heap.size, 4, none⟩ = some (.slice v.pj z.J.length v.cj) := (hB.cell (by simp [hN])).trans c4
        rw [List.take_length] at hT
        have HT : Hid _ := hT.wide (hi := wr.heap.size) (n := 1024) hT.hi (Nat.le_refl _) HZ.out.hl
        have HB : Hid _ := hB
        clear hT hB g3 c4
        go_wp2_with fail
        go_loopw [41] (fun si wy => ∃ k : Nat, k ≤ z.J.length ∧ si = .int .i64 k ∧ Below W.heap.size W wy ∧ ∃ vJ, TabS wy { r with hi := wy.heap.size, n := 1024 } z.E z.P z.S (setOf (.lit (.bool true)) (z.H.map (Lit.int .u64))) z.wr vJ (z.J.take k) z.age) (fun si _ => (z.J.length - intOf si).toNat)
        case atStart => exact ⟨0, by omega, rfl, HB.out, _, HT.out⟩
        case round =>
          clear HB HT
          obtain ⟨k, hk, rfl, hB, vJ, hT⟩ := hrel
          by_cases hlt2 : k < z.J.length
          · obtain ⟨b, o, hpj, hc0, hc1, hc2⟩ := (HZ.out.jcs.keep hB) k hlt2
            obtain ⟨_, _, _, _, _, q13, _, _, f13, _⟩ := hT.cellP
            have hown := hT.row
            have HT : Hid _ := hT
            have HB : Hid _ := hB
            have HJ : Hid (z.J.take (k + 1) = z.J.take k ++ [z.J.getD k (0, 0, 0)]) := take_snoc _ hlt2
            generalize z.J.getD k (0, 0, 0) = jo at *
            obtain ⟨jid, jcn, jag⟩ := jo
            dsimp only at hc0 hc1 hc2
            obtain ⟨Wj, hWj⟩ : ∃ Wj, wr.alloc (.cells #[.int .u64 jid, .int .u64 jcn, .int .u64 jag] 92) = Wj := ⟨_, rfl⟩
            have hsj : Wj.heap.size = wr.heap.size + 1 := by rw [← hWj]; simp
            have hTj : TabS Wj { r with hi := wr.heap.size, n := 1024 } z.E z.P z.S (setOf (.lit (.bool true)) (z.H.map (Lit.int .u64))) z.wr vJ (z.J.take k) z.age := by
              rw [← hWj]; exact hT.keep (by show wr.heap.size ≤ _; simp) (fun k _ hk2 => Below.heap_alloc _ _ _ hk2)
            have hBj : Below W.heap.size W Wj := by rw [← hWj]; exact bs_alloc hB _
            have d0 : Wj.cell? ⟨wr.heap.size, 0, none⟩ = some (.int .u64 jid) := by rw [← hWj]; simp
            have d1 : Wj.cell? ⟨wr.heap.size, 1, none⟩ = some (.int .u64 jcn) := by rw [← hWj]; simp
            have d2 : Wj.cell? ⟨wr.heap.size, 2, none⟩ = some (.int .u64 jag) := by rw [← hWj]; simp
            have hbw : r.b < wr.heap.size := hT.bhi
            clear hT hB
            rw [hpj]
            go_upto_region 10 with fail
            clear hWj hc0 hc1 hc2 q13 f13 HT HB hown
            have HTj : Hid _ := hTj
            have HBj : Hid _ := hBj
            obtain ⟨_, _, _, _, _, q13, _, _, f13, _⟩ := hTj.cellP
            dsimp only at q13 f13
            clear hTj hBj
            have hne : ¬ r.b = wr.heap.size := by omega
            have hne' : ¬ wr.heap.size = r.b := by omega
            have hbj : r.b < Wj.heap.size := by omega
            have HSJ : Hid _ := hsj
            clear hsj
            obtain ⟨X, hX⟩ : ∃ X : Obj, X = .cells #[.int .u64 jid, .int .u64 jcn, .int .u64 jag] 94 := ⟨_, rfl⟩
            have HTd : Hid (TabS (Wj.alloc X).drew { r with hi := wr.heap.size, n := 1024 } z.E z.P z.S (setOf (.lit (.bool true)) (z.H.map (Lit.int .u64))) z.wr vJ (z.J.take k) z.age) :=
              HTj.out.keep (by show wr.heap.size ≤ (Wj.alloc X).heap.size; have := HSJ.out; simp; omega) (fun k _ hk2 => Below.heap_alloc _ _ _ (by have := HSJ.out; have : k < wr.heap.size := hk2; omega))
            have HBd : Hid (Below W.heap.size W (Wj.alloc X).drew) := (bs_alloc HBj.out _).drew
            have HNW : Hid (∀ j u, [Value.int .u64 jid, .int .u64 jcn, .int .u64 jag][j]? = some u → (Wj.alloc X).drew.cell? ((⟨Wj.heap.size, 0, none⟩ : Addr).add j) = some u) := by
              refine World.news_of_block (w := (Wj.alloc X).drew) (cs := #[.int .u64 jid, .int .u64 jcn, .int .u64 jag]) (t := 94) (fr := (0, 0)) ?_
              rw [hX]; exact World.alloc_heap_new _ _
            have HD0 : Hid ((Wj.alloc X).drew.cell? ⟨wr.heap.size, 0, none⟩ = some (.int .u64 jid)) := ((al X).cell (World.block_lt_of_cell? _ _ d0)).trans d0
            have HD1 : Hid ((Wj.alloc X).drew.cell? ⟨wr.heap.size, 1, none⟩ = some (.int .u64 jcn)) := ((al X).cell (World.block_lt_of_cell? _ _ d1)).trans d1
            have HD2 : Hid ((Wj.alloc X).drew.cell? ⟨wr.heap.size, 2, none⟩ = some (.int .u64 jag)) := ((al X).cell (World.block_lt_of_cell? _ _ d2)).trans d2
            have hkk : (z.J.take k).length ≤ 1024 := by simp; omega
            have hbd : r.b + 1 ≤ (Wj.alloc X).drew.heap.size := by show r.b + 1 ≤ (Wj.alloc X).heap.size; simp; omega
            subst hX
            have hlen : (z.J.take k).length = k := by rw [List.length_take]; omega
            have HFIN : Hid (∀ g cap w1, w1.ownsRow (r.b + 1) 94 3 (.slice (some ⟨g, 0, none⟩) (k + 1) cap) (k + 1) (jcells (z.J.take k) ++ [.int .u64 jid, .int .u64 jcn, .int .u64 jag]) → (Wj.alloc (.cells #[.int .u64 jid, .int .u64 jcn, .int .u64 jag] 94)).drew.grownBy w1 vJ.ownBlock → g < w1.heap.size →
                w1.cell? ⟨r.b, 13, none⟩ = some vJ ∧ w1.frozen? ⟨r.b, 13, none⟩ = false ∧ Hid (Below W.heap.size W (w1.setCell ⟨r.b, 13, none⟩ (.slice (some ⟨g, 0, none⟩) (k + 1) cap)) ∧
                TabS (w1.setCell ⟨r.b, 13, none⟩ (.slice (some ⟨g, 0, none⟩) (k + 1) cap)) { r with hi := (w1.setCell ⟨r.b, 13, none⟩ (.slice (some ⟨g, 0, none⟩) (k + 1) cap)).heap.size, n := 1024 } z.E z.P z.S (setOf (.lit (.bool true)) (z.H.map (Lit.int .u64))) z.wr (.slice (some ⟨g, 0, none⟩) (k + 1) cap) (z.J.take (k + 1)) z.age)) := by
              intro g cap w1 hown1 hgrow hltg
              obtain ⟨_, hc13, hf13⟩ := app_cell HTd.out hgrow
              refine ⟨hc13, hf13, ?_, ?_⟩
              · have h1 : r.lo ≤ r.m := HTd.out.mlo
                have h2 : r.m < r.b := HTd.out.mb
                refine (HBd.out.grown hgrow HBd.out.size (fun k e => ?_)).setCell (by show W.heap.size ≤ r.b; omega) _
                have h3 : r.b + 1 ≤ k := (HTd.out.row.lt k e).1
                omega
              · have := app_tab (j := (jid, jcn, jag)) HTd.out hgrow (by rw [hlen]; exact hown1) hltg
                rw [hlen, ← HJ.out] at this
                have hs : (w1.setCell ⟨r.b, 13, none⟩ (.slice (some ⟨g, 0, none⟩) (k + 1) cap)).heap.size = w1.heap.size := by simp
                rw [hs]
                exact this
            have HROW : Hid ((Wj.alloc (.cells #[.int .u64 jid, .int .u64 jcn, .int .u64 jag] 94)).drew.ownsRow (r.b + 1) 94 3 vJ k (jcells (z.J.take k))) := by
              have h := HTd.out.row
              rw [hlen] at h
              exact h
            clear HD0 HD1 HD2 HTd HBd HTj HBj hlen hkk HJ hhl HB0
            go_region_law (first | (refine step_append_lies _ rfl _ _ 83 rfl (r.b + 1) 94 i0 (.agg #[.int .u64 0, .int .u64 0, .int .u64 0]) 3 24 Yba.underlying83 hi hz0 hz1 hz2 rfl (by decide) vJ k (jcells (z.J.take k)) rfl HROW.out ⟨Wj.heap.size, 0, none⟩ 1 1 [.int .u64 jid, .int .u64 jcn, .int .u64 jag] rfl rfl HNW.out (by simp [Value.oneCell']) (by decide) (by unfold maxLen; omega) (by omega) hbd _ rfl ?_; intro g cap w1 hown1 hgrow hat hltg; obtain ⟨hc13, hf13, HX⟩ := HFIN.out g cap w1 hown1 hgrow hltg; clear hown1 hgrow hat))
            all_goals (go_wp2_with fail; go_roundw; (case rel => (exact ⟨k + 1, by omega, by go_num, HX.out.1, _, HX.out.2⟩)); (case measure => (simp [intOf]; omega)))
          · obtain rfl : k = z.J.length := by omega
            rw [List.take_length] at hT
            have HT : Hid _ := hT
            have HB : Hid _ := hB
            clear hT hB
            go_wp2_with fail
            go_ret
            have hlo2 := hlo
            exact ⟨{ r with hi := _, n := 1024 }, _, rfl, HB0.out.trans (HB.out.mono (by omega)), by show w.heap.size ≤ r.lo; omega, rfl, HT.out⟩
end Go.Proofs.Ybulkclso
