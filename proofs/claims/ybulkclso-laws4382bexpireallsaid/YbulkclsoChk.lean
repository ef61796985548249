import Derived.Test.YbulkclsoCnt
namespace Go.Proofs.Ybulkclso
open Go.RowKit Go.Maps

theorem zero90 (w : World) : (zeroValue 90).run Yba.prog w = .ok hz w := by kernel_rfl

/-- '_, ok := t.heard[x]' -/
theorem lookup_h (w : World) {ops : Array Oper} {rest : List Oper} {o : Oper} {a : Act} {Q : Exit → Act → World → Prop} (hg : o.guard = none) (m x : Operand) (hop : o.op = Op.lookup 80 m x true) (b n : Nat) (D : DataW Unit)
    (hm : a.eval m = .map (some b)) (hown : w.ownsMap Yba.prog 22 hElem b n D) (key : Value) (kl : Lit) (hx : a.eval x = key) (hkey : keyOf Yba.prog 22 key = some kl) (c : Bool) (hc : has D kl = c)
    (hK : wpList Yba.prog ops Q rest (a.put o.dst (.tuple #[.agg #[.int .u64 0, .bool false, .bool false, .int .u64 0, .int .u64 0, .int .u64 0], .bool c])) w) :
    wpList Yba.prog ops Q (o :: rest) a w :=
  wpList_lookup_own_ok w hg m x 80 hop 22 90 law22 Yba.underlying80 hElem (zero90 w) (.lit (.bool true)) [] hElem_hz b n D hm hown key kl hx hkey (fun v ps hv => by
    obtain ⟨rfl, _⟩ := hElem_inv hv
    rw [hc]
    exact hK)

theorem HMap.upC {w w' : World} {m n : Nat} {D : DataW Unit} (h : HMap w m n D) (hb : Below w.heap.size w w') : HMap w' m n D := by
  obtain ⟨es, clock, h1, rest⟩ := h
  exact ⟨es, clock, (hb.block m (Array.getElem?_eq_some_iff.1 h1).1).trans h1, rest⟩

theorem own_slice {w : World} {base n : Nat} {v : Value} {xs : List Value} (h : w.ownsRow base 94 3 v n xs) : ∃ q c, v = .slice q n c := by
  rcases Joins.ownsRow_forms h with ⟨rfl, rfl⟩ | ⟨g, cap, rfl⟩
  · exact ⟨none, 0, rfl⟩
  · exact ⟨_, _, rfl⟩

theorem kept_get {p : Jo → Bool} {J : List Jo} {j : Nat} (hj : j < J.length) (hp : p (J.getD j j0) = false) : (kept p J j).length < (J.filter (fun x => !p x)).length ∧ (J.filter (fun x => !p x)).getD (kept p J j).length j0 = J.getD j j0 := by
  have e : J = J.take j ++ (J.getD j j0 :: J.drop (j + 1)) := by
    have h1 : J.getD j j0 = J[j] := by simp [List.getD, hj]
    rw [h1, List.getElem_cons_drop, List.take_append_drop]
  have hf : J.filter (fun x => !p x) = kept p J j ++ (J.getD j j0 :: (J.drop (j + 1)).filter (fun x => !p x)) := by
    conv => lhs; rw [e]
    rw [List.filter_append, List.filter_cons, hp]
    rfl
  rw [hf]
  constructor
  · simp
  · simp [List.getD]

theorem quiet_eq {w : World} {nq k : Nat} {p q : Option Addr} {cp cq : Nat} {xs : List Int} (hlen : xs.length ≤ 1024) (hp : Cs w p xs) (hq : Cs w q xs) :
    Calls Yba.prog 24 #[.slice p xs.length cp, .slice q xs.length cq] (w.drewN (nq + k)) fun e w'' => e = .returned (.bool true) ∧ ∃ n, w'' = w.drewN (nq + n) :=
  (equal_same p q cp cq xs (w.drewN (nq + k)) hlen hp hq).mono fun _ _ ⟨h1, n, h2⟩ => ⟨h1, k + n, by rw [h2, drewN_drewN, Nat.add_assoc]⟩

set_option maxRecDepth 100000 in
set_option maxHeartbeats 8000000 in
theorem check_any (v : Zv) (z : Zt) (r : Rec) (D' : DataW Unit) (del : Nat) (vJ : Value) (keep : Int) (w : World) (hzo : ZOk w v z) (uK : U64 keep)
    (hT : TabS w r z.E z.P z.S D' (IntKind.u64.wrap (z.wr + del)) vJ (z.J.filter (fun j => !dies keep z.age j.2.2)) (IntKind.u64.wrap (z.age + 1)))
    (hsz : size D' + ((firsts z.H z.H.length).filter (fun x => !stayB z.E z.S z.P keep z.age x)).length = (firsts z.H z.H.length).length) (hdel : del = ((firsts z.H z.H.length).filter (fun x => !stayB z.E z.S z.P keep z.age x)).length)
    (hhas : ∀ x, x ∈ z.H → has D' (.int .u64 x) = stayB z.E z.S z.P keep z.age x) :
    Calls Yba.prog 12 #[.agg (zcells v z), .pointer (some ⟨r.b, 0, none⟩), .int .u64 keep] w fun e w' => e = .returned (.bool true) ∧ Below w.heap.size w w' := by
  obtain ⟨W, hW⟩ : ∃ W, w.alloc (.cells (zcells v z) 52) = W := ⟨_, rfl⟩
  have hN : W.heap.size = w.heap.size + 1 := by rw [← hW]; simp
  have c0 : W.cell? ⟨w.heap.size, 0, none⟩ = some (.slice v.pe z.E.length v.ce) := by rw [← hW]; simp [zcells]
  have c1 : W.cell? ⟨w.heap.size, 1, none⟩ = some (.slice v.pp z.P.length v.cp) := by rw [← hW]; simp [zcells]
  have c2 : W.cell? ⟨w.heap.size, 2, none⟩ = some (.slice v.ps z.S.length v.cs) := by rw [← hW]; simp [zcells]
  have c3 : W.cell? ⟨w.heap.size, 3, none⟩ = some (.slice v.ph z.H.length v.ch) := by rw [← hW]; simp [zcells]
  have c4 : W.cell? ⟨w.heap.size, 4, none⟩ = some (.slice v.pj z.J.length v.cj) := by rw [← hW]; simp [zcells]
  have c5 : W.cell? ⟨w.heap.size, 5, none⟩ = some (.int .u64 z.age) := by rw [← hW]; simp [zcells]
  have c6 : W.cell? ⟨w.heap.size, 6, none⟩ = some (.int .u64 z.wr) := by rw [← hW]; simp [zcells]
  have hb0 : Below w.heap.size w W := by rw [← hW]; exact al _
  have hzW := hzo.keep hb0
  have hTW := hT.keep (w' := W) (by have := hT.hi; omega) (fun k _ hk => hb0.block k (by have := hT.hi; omega))
  have hWz : w.alloc (.cells #[.slice v.pe z.E.length v.ce, .slice v.pp z.P.length v.cp, .slice v.ps z.S.length v.cs, .slice v.ph z.H.length v.ch, .slice v.pj z.J.length v.cj, .int .u64 z.age, .int .u64 z.wr] 52) = W := hW
  obtain ⟨q1, q2, q8, q10, q11, q13, q19, _, _, _⟩ := hTW.cellP
  have HZ : Hid _ := hzW
  have HTW : Hid _ := hTW
  have HB0 : Hid _ := hb0
  have hEc : Cs W r.pe z.E := hTW.ecs.cs
  have hPc : Cs W r.pp z.P := hTW.pcs.cs
  have hSc : Cs W r.ps z.S := hTW.scs.cs
  have zEc := hzW.ecs
  have zPc := hzW.pcs
  have zSc := hzW.scs
  have lE := hzW.el
  have lP := hzW.pl
  have lS := hzW.sl
  have HSZ : Hid _ := hsz
  have HDEL : Hid _ := hdel
  have HHAS : Hid _ := hhas
  clear hzo hT hzW hTW hb0 hsz hdel hhas
  go_enter Yba.func12, Yba.ntmps12
  unfold zcells
  go_wp2_with fail
  clear hW hWz
  go_quiet (fail)
  go_wp2_with fail
  go_quiet ((go_at_call 24; first | exact quiet_eq lE hEc zEc | exact quiet_eq lP hPc zPc | exact quiet_eq lS hSc zSc))
  go_wp2_with fail
  have hlH : (z.H.length : Int) ≤ 1024 := by have := HZ.out.hl; omega
  have hlJ : (z.J.length : Int) ≤ 1024 := by have := HZ.out.jl; omega
  go_loopw [7, 8, 58] (fun s7 s8 s58 wx => ∃ k : Nat, k ≤ z.H.length ∧ s58 = .int .i64 k ∧ s7 = .int .i64 (firsts z.H k).length ∧ s8 = .int .i64 ((firsts z.H k).filter (fun x => !stayB z.E z.S z.P keep z.age x)).length ∧ Below W.heap.size W wx) (fun _ _ s58 _ => (z.H.length - intOf s58).toNat)
  case atStart => exact ⟨0, by omega, rfl, rfl, rfl, by first | exact below_drewN (Below.refl _ _) _ | exact below_drewN (below_drewN (Below.refl _ _) _) _⟩
  case round =>
    obtain ⟨k, hk, rfl, h7, h8, hB⟩ := hrel
    have kc : ∀ {a : Addr} {u : Value}, W.cell? a = some u → wr.cell? a = some u := fun {a u} hc => (hB.cell (World.block_lt_of_cell? _ _ hc)).trans hc
    have e0 := kc c0
    have e1 := kc c1
    have e2 := kc c2
    have e3 := kc c3
    have e5 := kc c5
    have r10 := kc q10
    have HB : Hid _ := hB
    by_cases hlt : k < z.H.length
    · obtain ⟨dn, hdn⟩ : ∃ dn, dn = (firsts z.H k).length := ⟨_, rfl⟩
      obtain ⟨dl, hdl⟩ : ∃ dl, dl = ((firsts z.H k).filter (fun x => !stayB z.E z.S z.P keep z.age x)).length := ⟨_, rfl⟩
      have hdnk : dn ≤ k := by rw [hdn]; unfold firsts; rw [List.length_map]; exact Nat.le_trans (List.length_filter_le _ _) (by simp)
      have hdld : dl ≤ dn := by rw [hdl, hdn]; exact List.length_filter_le _ _
      rw [← hdn] at h7
      rw [← hdl] at h8
      subst h7
      subst h8
      have HDN : Hid _ := hdn
      have HDL : Hid _ := hdl
      obtain ⟨x, hx⟩ : ∃ x, x = z.H.getD k 0 := ⟨_, rfl⟩
      have hxm : x ∈ z.H := by rw [hx]; simp [List.getD, hlt]
      have ux : U64 x := HZ.out.hu x hxm
      have hcH := HZ.out.hcs.keep hB
      obtain ⟨b, o, hph, hcx⟩ := hcH k hlt
      rw [← hx] at hcx
      have HIx := index_any v.ph v.ch z.H x wr HZ.out.hl hcH
      rw [hph] at HIx
      have hkey := keyOf_int_mk (P := Yba.prog) (k := 22) (q := .u64) Yba.underlying22 (wf_u64 ux)
      have hown : wr.ownsMap Yba.prog 22 hElem r.m r.n D' := HMap.upC HTW.out.map hB
      have HX : Hid _ := hx
      by_cases hf : idxOf z.H x = k
      · have HF : Hid (firsts z.H (k + 1) = firsts z.H k ++ [x]) := by rw [hx]; exact firsts_yes (by rw [← hx]; exact hf)
        rw [hf] at HIx
        have hCE := contains_any v.pe v.ce z.E x wr HZ.out.el (HZ.out.ecs.keep hB)
        have hCP := contains_any v.pp v.cp z.P x wr HZ.out.pl (HZ.out.pcs.keep hB)
        have hCS := contains_any v.ps v.cs z.S x wr HZ.out.sl (HZ.out.scs.keep hB)
        have hst := HHAS.out x hxm
        have hkn : decide (x ∈ knownL z.E z.S z.P) = (z.E.contains x || z.P.contains x || z.S.contains x) := by
          have := @mem_knownL z.E z.S z.P x
          by_cases h1 : x ∈ z.E <;> by_cases h2 : x ∈ z.P <;> by_cases h3 : x ∈ z.S <;> simp [this, h1, h2, h3]
        have hdz : dies keep z.age 0 = decide (keep ≤ z.age) := by unfold dies; rw [Int.zero_add, wrap_u64 uK]
        have hstv : stayB z.E z.S z.P keep z.age x = ((z.E.contains x || z.P.contains x || z.S.contains x) || !decide (keep ≤ z.age)) := by unfold stayB; rw [hkn, hdz]
        clear hdn hdl hx hB kc hxm ux hcH hf hkn hdz
        rw [hph] at e3 ⊢
        generalize z.E.contains x = cE at *
        generalize z.P.contains x = cP at *
        generalize z.S.contains x = cS at *
        have HST : Hid _ := hstv
        rw [hstv] at hst
        clear hstv
        cases cE with
        | true =>
          have hc : has D' (.int .u64 x) = true := by simpa using hst
          clear hst hCP hCS
          replace HST : Hid (stayB z.E z.S z.P keep z.age x = true) := (by simpa using HST.out : stayB z.E z.S z.P keep z.age x = true)
          go_wp2_with (first | (go_at_call 25; refine HIx.mono ?_; rintro e w' ⟨rfl, rfl⟩) | (go_at_call 26; refine hCE.mono ?_; rintro e w' ⟨rfl, rfl⟩; clear hCE) | (at_lookup; refine lookup_h _ rfl _ _ rfl r.m r.n D' rfl hown _ _ rfl hkey _ hc ?_))
          go_roundw
          case rel =>
            exact ⟨k + 1, by omega, by go_num, by rw [HF.out, List.length_append, ← HDN.out]; go_num, by rw [HF.out, List.filter_append, List.length_append, ← HDL.out]; simp [HST.out], bs_alloc HB.out _⟩
          case measure => simp [intOf]; omega
        | false =>
          cases cP with
          | true =>
            have hc : has D' (.int .u64 x) = true := by simpa using hst
            clear hst hCS
            replace HST : Hid (stayB z.E z.S z.P keep z.age x = true) := (by simpa using HST.out : stayB z.E z.S z.P keep z.age x = true)
            go_wp2_with (first | (go_at_call 25; refine HIx.mono ?_; rintro e w' ⟨rfl, rfl⟩) | (go_at_call 26; refine hCE.mono ?_; rintro e w' ⟨rfl, rfl⟩; clear hCE) | (go_at_call 26; refine hCP.mono ?_; rintro e w' ⟨rfl, rfl⟩; clear hCP) | (at_lookup; refine lookup_h _ rfl _ _ rfl r.m r.n D' rfl hown _ _ rfl hkey _ hc ?_))
            go_roundw
            case rel =>
              exact ⟨k + 1, by omega, by go_num, by rw [HF.out, List.length_append, ← HDN.out]; go_num, by rw [HF.out, List.filter_append, List.length_append, ← HDL.out]; simp [HST.out], bs_alloc HB.out _⟩
            case measure => simp [intOf]; omega
          | false =>
            cases cS with
            | true =>
              have hc : has D' (.int .u64 x) = true := by simpa using hst
              clear hst
              replace HST : Hid (stayB z.E z.S z.P keep z.age x = true) := (by simpa using HST.out : stayB z.E z.S z.P keep z.age x = true)
              go_wp2_with (first | (go_at_call 25; refine HIx.mono ?_; rintro e w' ⟨rfl, rfl⟩) | (go_at_call 26; refine hCE.mono ?_; rintro e w' ⟨rfl, rfl⟩; clear hCE) | (go_at_call 26; refine hCP.mono ?_; rintro e w' ⟨rfl, rfl⟩; clear hCP) | (go_at_call 26; refine hCS.mono ?_; rintro e w' ⟨rfl, rfl⟩; clear hCS) | (at_lookup; refine lookup_h _ rfl _ _ rfl r.m r.n D' rfl hown _ _ rfl hkey _ hc ?_))
              go_roundw
              case rel =>
                exact ⟨k + 1, by omega, by go_num, by rw [HF.out, List.length_append, ← HDN.out]; go_num, by rw [HF.out, List.filter_append, List.length_append, ← HDL.out]; simp [HST.out], bs_alloc HB.out _⟩
              case measure => simp [intOf]; omega
            | false =>
              by_cases hka : keep ≤ z.age
              · have hc : has D' (.int .u64 x) = false := by simpa [hka] using hst
                clear hst
                replace HST : Hid (stayB z.E z.S z.P keep z.age x = false) := (by simpa [hka] using HST.out : stayB z.E z.S z.P keep z.age x = false)
                have hka' : ¬ z.age < keep := by omega
                have hkb : decide (z.age < keep) = false := decide_eq_false hka'
                go_wp2_with (first | (go_at_call 25; refine HIx.mono ?_; rintro e w' ⟨rfl, rfl⟩) | (go_at_call 26; refine hCE.mono ?_; rintro e w' ⟨rfl, rfl⟩; clear hCE) | (go_at_call 26; refine hCP.mono ?_; rintro e w' ⟨rfl, rfl⟩; clear hCP) | (go_at_call 26; refine hCS.mono ?_; rintro e w' ⟨rfl, rfl⟩; clear hCS) | (at_lookup; refine lookup_h _ rfl _ _ rfl r.m r.n D' rfl hown _ _ rfl hkey _ hc ?_))
                go_roundw
                case rel =>
                  exact ⟨k + 1, by omega, by go_num, by rw [HF.out, List.length_append, ← HDN.out]; go_num, by rw [HF.out, List.filter_append, List.length_append, ← HDL.out]; simp [HST.out], bs_alloc HB.out _⟩
                case measure => simp [intOf]; omega
              · have hc : has D' (.int .u64 x) = true := by simpa [hka] using hst
                clear hst
                replace HST : Hid (stayB z.E z.S z.P keep z.age x = true) := (by simpa [hka] using HST.out : stayB z.E z.S z.P keep z.age x = true)
                have hka' : z.age < keep := by omega
                have hkb : decide (z.age < keep) = true := decide_eq_true hka'
                go_wp2_with (first | (go_at_call 25; refine HIx.mono ?_; rintro e w' ⟨rfl, rfl⟩) | (go_at_call 26; refine hCE.mono ?_; rintro e w' ⟨rfl, rfl⟩; clear hCE) | (go_at_call 26; refine hCP.mono ?_; rintro e w' ⟨rfl, rfl⟩; clear hCP) | (go_at_call 26; refine hCS.mono ?_; rintro e w' ⟨rfl, rfl⟩; clear hCS) | (at_lookup; refine lookup_h _ rfl _ _ rfl r.m r.n D' rfl hown _ _ rfl hkey _ hc ?_))
                go_roundw
                case rel =>
                  exact ⟨k + 1, by omega, by go_num, by rw [HF.out, List.length_append, ← HDN.out]; go_num, by rw [HF.out, List.filter_append, List.length_append, ← HDL.out]; simp [HST.out], bs_alloc HB.out _⟩
                case measure => simp [intOf]; omega
      · have HF : Hid (firsts z.H (k + 1) = firsts z.H k) := firsts_no (by rw [← hx]; exact hf)
        clear hdn hdl hx hB kc hxm ux hcH
        rw [hph] at e3 ⊢
        have HNE : ¬ idxOf z.H x = (k : Int) := hf
        have HNB : (idxOf z.H x == (k : Int)) = false := beq_eq_false_iff_ne.2 hf
        have HNC : (idxOf z.H x != (k : Int)) = true := by simp [bne, HNB]
        clear hf
        generalize idxOf z.H x = ii at *
        go_wp2_with (go_at_call 25; refine HIx.mono ?_; rintro e w' ⟨rfl, rfl⟩)
        go_roundw
        case rel => exact ⟨k + 1, by omega, by go_num, by rw [HF.out, ← HDN.out], by rw [HF.out, ← HDL.out], HB.out⟩
        case measure => simp [intOf]; omega
    · obtain rfl : k = z.H.length := by omega
      have HSZ' := HSZ.out
      have HDEL' := HDEL.out
      obtain ⟨dn, hdn⟩ : ∃ dn, dn = (firsts z.H z.H.length).length := ⟨_, rfl⟩
      obtain ⟨dl, hdl⟩ : ∃ dl, dl = ((firsts z.H z.H.length).filter (fun x => !stayB z.E z.S z.P keep z.age x)).length := ⟨_, rfl⟩
      have hdnk : dn ≤ z.H.length := by rw [hdn]; unfold firsts; rw [List.length_map]; exact Nat.le_trans (List.length_filter_le _ _) (by simp)
      have hdld : dl ≤ dn := by rw [hdl, hdn]; exact List.length_filter_le _ _
      rw [← hdn] at h7 HSZ'
      rw [← hdl] at h8 HSZ' HDEL'
      subst h7
      subst h8
      subst HDEL'
      have hown : wr.ownsMap Yba.prog 22 hElem r.m r.n D' := HMap.upC HTW.out.map hB
      have e6 := kc c6
      have e4 := kc c4
      have r11 := kc q11
      have r13 := kc q13
      have hsI : (size D' : Int) = (dn : Int) - del := by omega
      have hwd : IntKind.u64.wrap (del : Int) = del := wrap_u64 ⟨by omega, by omega⟩
      clear hdn hdl
      go_wp2_with (first | (at_len; refine wpList_len_own _ rfl _ 80 rfl 22 90 Yba.underlying80 _ r.m r.n D' rfl hown ?_))
      go_quiet (fail)
      obtain ⟨q, c, hvJ⟩ := own_slice HTW.out.row
      go_wp2_with fail
      go_loopw [15, 133] (fun s15 s133 wx => ∃ j : Nat, j ≤ z.J.length ∧ s133 = .int .i64 j ∧ s15 = .int .i64 (kept (fun j => dies keep z.age j.2.2) z.J j).length ∧ Below W.heap.size W wx) (fun _ s133 _ => (z.J.length - intOf s133).toNat)
      case atStart => exact ⟨0, by omega, rfl, rfl, by first | exact below_drewN HB.out _ | exact HB.out⟩
      case round =>
        clear e0 e1 e2 e3 e5 r10 e6 e4 r11 r13 hown hsI hwd hB kc HB
        obtain ⟨j, hj, rfl, h15, hB⟩ := hrel
        have kc : ∀ {a : Addr} {u : Value}, W.cell? a = some u → wr.cell? a = some u := fun {a u} hc => (hB.cell (World.block_lt_of_cell? _ _ hc)).trans hc
        have e5 := kc c5
        have r13 := kc q13
        rw [hvJ] at r13
        have HB : Hid _ := hB
        have lNw : w.heap.size < wr.heap.size := World.block_lt_of_cell? _ _ e5
        have lbw : r.b < wr.heap.size := World.block_lt_of_cell? _ _ r13
        obtain ⟨kn, hkn⟩ : ∃ kn, kn = (kept (fun j => dies keep z.age j.2.2) z.J j).length := ⟨_, rfl⟩
        have hknj : kn ≤ j := by rw [hkn]; unfold kept; exact Nat.le_trans (List.length_filter_le _ _) (by rw [List.length_take]; omega)
        rw [← hkn] at h15
        subst h15
        have HKN : Hid _ := hkn
        by_cases hlt2 : j < z.J.length
        · obtain ⟨jb, jo, hpj, d0, d1, d2⟩ := (HZ.out.jcs.keep hB) j hlt2
          have HK := kept_succ (p := fun j => dies keep z.age j.2.2) hlt2
          obtain ⟨jj, hjj⟩ : ∃ jj, jj = z.J.getD j (0, 0, 0) := ⟨_, rfl⟩
          have hjj2 : jj = z.J.getD j j0 := hjj
          rw [← hjj] at d0 d1 d2
          rw [← hjj2] at HK
          rw [hpj]
          by_cases hd : IntKind.u64.wrap (jj.2.2 + keep) ≤ z.age
          · have hdt : dies keep z.age jj.2.2 = true := decide_eq_true hd
            rw [hdt, if_pos rfl] at HK
            have HK2 : Hid _ := HK
            obtain ⟨jid, jcn, jag⟩ := jj
            dsimp only at d0 d1 d2 hd
            clear hjj hjj2 hB kc HK hdt hkn
            go_wp2_with fail
            go_roundw
            case rel => exact ⟨j + 1, by omega, by go_num, by rw [HK2.out, ← HKN.out], bs_alloc HB.out _⟩
            case measure => simp [intOf]; omega
          · have hdt : dies keep z.age jj.2.2 = false := decide_eq_false hd
            rw [hdt] at HK
            simp only [Bool.false_eq_true, if_false] at HK
            have HK2 : Hid _ := HK
            obtain ⟨hkl, hkg⟩ := kept_get (p := fun j => dies keep z.age j.2.2) hlt2 (by rw [← hjj2]; exact hdt)
            rw [← hkn] at hkl hkg
            rw [← hjj2] at hkg
            have hrow := HTW.out.row
            rw [hvJ] at hrow
            obtain ⟨g, c', hq⟩ := Joins.ownsRow_form hrow (by omega)
            injection hq with hq1 hq2 hq3
            subst hq1
            obtain ⟨y0, y1, y2⟩ := JAt.of_own hrow hkl
            rw [hkg] at y0 y1 y2
            replace y0 := kc y0
            replace y1 := kc y1
            replace y2 := kc y2
            have lgw : g < wr.heap.size := World.block_lt_of_cell? _ _ y0
            obtain ⟨fl, hfl⟩ : ∃ fl, fl = (z.J.filter (fun j => !dies keep z.age j.2.2)).length := ⟨_, rfl⟩
            rw [← hfl] at r13 hkl
            have hfl2 : fl ≤ 1024 := by rw [hfl]; exact Nat.le_trans (List.length_filter_le _ _) HZ.out.jl
            have hklI : (kn : Int) < fl := by omega
            have hd' : z.age < IntKind.u64.wrap (jj.2.2 + keep) := by omega
            obtain ⟨jid, jcn, jag⟩ := jj
            dsimp only at d0 d1 d2 hd hd' y0 y1 y2
            clear hjj hjj2 hB kc HK hdt hkn hkg hrow hfl hd
            go_wp2_with fail
            go_roundw
            case rel => exact ⟨j + 1, by omega, by go_num, by rw [HK2.out, List.length_append, ← HKN.out]; go_num, bs_alloc (bs_alloc HB.out _) _⟩
            case measure => simp [intOf]; omega
        · obtain rfl : j = z.J.length := by omega
          rw [kept_all] at hkn HKN
          rw [← hkn] at r13
          clear hB kc
          have HKN2 : Hid _ := hkn
          clear hkn
          go_wp2_with fail
          go_ret
          exact ⟨rfl, HB0.out.trans (HB.out.mono (by omega))⟩
end Go.Proofs.Ybulkclso
