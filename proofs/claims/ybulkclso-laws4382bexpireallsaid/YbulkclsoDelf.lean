import Derived.Test.YbulkclsoDel
namespace Go.Proofs.Ybulkclso
open Go.RowKit Go.Maps

/-- The row in block g, of cap elements: the first of them are F, those from j on are J's. -/
structure JRow (w : World) (g cap : Nat) (F J : List Jo) (j : Nat) : Prop where
  blk : ∃ cur, w.heap[g]? = some (.cells cur 94 (0, 0)) ∧ cur.size = cap * 3
  fst : ∀ q, q < F.length → JAt w g q (F.getD q j0)
  lst : ∀ q, j ≤ q → q < J.length → JAt w g q (J.getD q j0)

def kept (p : Jo → Bool) (J : List Jo) (j : Nat) : List Jo := (J.take j).filter (fun x => !p x)

theorem JRow.of_block {w w' : World} {g cap : Nat} {F J : List Jo} {j : Nat} (h : JRow w g cap F J j) (hb : w'.heap[g]? = w.heap[g]?) : JRow w' g cap F J j :=
  ⟨let ⟨cur, h1, h2⟩ := h.blk; ⟨cur, hb.trans h1, h2⟩, fun q hq => (h.fst q hq).of_block hb, fun q h1 h2 => (h.lst q h1 h2).of_block hb⟩

theorem frozen_of_cells {w : World} {g : Nat} {cur : Array Value} {t : TypeId} (h : w.heap[g]? = some (.cells cur t (0, 0))) (o : Nat) : w.frozen? ⟨g, o, none⟩ = false := by
  simp [World.frozen?, h]

theorem kept_succ {p : Jo → Bool} {J : List Jo} {j : Nat} (h : j < J.length) : kept p J (j + 1) = if p (J.getD j j0) then kept p J j else kept p J j ++ [J.getD j j0] := by
  have e : J.take (j + 1) = J.take j ++ [J.getD j j0] := by rw [List.take_add_one]; simp [List.getD, h]
  unfold kept
  rw [e, List.filter_append]
  generalize J.getD j j0 = x
  cases hp : p x <;> simp [hp]
theorem kept_none {p : Jo → Bool} {J : List Jo} : ∀ {k : Nat}, k ≤ J.length → (∀ j, j < k → p (J.getD j j0) = false) → kept p J k = J.take k
  | 0, _, _ => by simp [kept]
  | k + 1, hk, hno => by
    rw [kept_succ (by omega), kept_none (by omega) (fun j hj => hno j (by omega)), hno k (by omega)]
    have e : J.take (k + 1) = J.take k ++ [J.getD k j0] := by rw [List.take_add_one]; simp [List.getD, show k < J.length by omega]
    rw [e]; rfl
theorem kept_first {p : Jo → Bool} {J : List Jo} {k : Nat} (hk : k < J.length) (hp : p (J.getD k j0) = true) (hno : ∀ j, j < k → p (J.getD j j0) = false) : kept p J (k + 1) = J.take k := by
  rw [kept_succ hk, hp, kept_none (by omega) hno]; rfl

theorem grow_below {w A B : World} {g : Nat} (hg : w.grownBy A (some g)) (hb : Below A.heap.size A B) : w.grownBy B (some g) :=
  ⟨hb.os.trans hg.os, hb.tape.trans hg.tape, hb.output.trans hg.output, Nat.le_trans hg.size hb.size, fun i hi hne => (hb.block i (Nat.lt_of_lt_of_le hi hg.size)).trans (hg.block i hi hne)⟩
theorem JRow.next {w : World} {g cap : Nat} {F J : List Jo} {j : Nat} (h : JRow w g cap F J j) : JRow w g cap F J (j + 1) := ⟨h.blk, h.fst, fun q h1 h2 => h.lst q (by omega) h2⟩
theorem JRow.anyAt {w : World} {g cap : Nat} {F J : List Jo} {j : Nat} (h : JRow w g cap F J j) {i : Nat} (hi : i < cap) : ∃ s0 s1 s2, w.cell? ⟨g, i * 3, none⟩ = some s0 ∧ w.cell? ⟨g, i * 3 + 1, none⟩ = some s1 ∧ w.cell? ⟨g, i * 3 + 2, none⟩ = some s2 ∧
    w.frozen? ⟨g, i * 3, none⟩ = false ∧ w.frozen? ⟨g, i * 3 + 1, none⟩ = false ∧ w.frozen? ⟨g, i * 3 + 2, none⟩ = false := by
  obtain ⟨cur, hc, hs⟩ := h.blk
  refine ⟨cur[i * 3]'(by omega), cur[i * 3 + 1]'(by omega), cur[i * 3 + 2]'(by omega), ?_, ?_, ?_, frozen_of_cells hc _, frozen_of_cells hc _, frozen_of_cells hc _⟩ <;> simp [World.cell?, hc]

def set3 (w : World) (g i : Nat) (j : Jo) : World := ((w.setCell ⟨g, i * 3, none⟩ (.int .u64 j.1)).setCell ⟨g, i * 3 + 1, none⟩ (.int .u64 j.2.1)).setCell ⟨g, i * 3 + 2, none⟩ (.int .u64 j.2.2)
theorem set3_grown {w W : World} {g : Nat} (h : w.grownBy W (some g)) (i : Nat) (j : Jo) : w.grownBy (set3 W g i j) (some g) := by
  refine ⟨h.os, h.tape, h.output, ?_, fun k hk hne => ?_⟩
  · simp [set3]; exact h.size
  · have hkg : k ≠ g := fun e => hne (by rw [e])
    unfold set3
    rw [Below.heap_setCell _ _ _ _ hkg, Below.heap_setCell _ _ _ _ hkg, Below.heap_setCell _ _ _ _ hkg]
    exact h.block k hk hne
theorem set3_far {w : World} {g i o : Nat} {j : Jo} (h : o < i * 3 ∨ i * 3 + 3 ≤ o) : (set3 w g i j).cell? ⟨g, o, none⟩ = w.cell? ⟨g, o, none⟩ := by
  unfold set3
  rw [World.cell?_setCell_other _ _ _ _ (by intro e; injection e; omega), World.cell?_setCell_other _ _ _ _ (by intro e; injection e; omega), World.cell?_setCell_other _ _ _ _ (by intro e; injection e; omega)]
theorem JRow.set3 {w : World} {g cap : Nat} {F J : List Jo} {i j : Nat} (h : JRow w g cap F J j) (hi : i = F.length) (hij : i < j) (hc : i < cap) (jo : Jo) : JRow (set3 w g i jo) g cap (F ++ [jo]) J (j + 1) := by
  obtain ⟨s0, s1, s2, x0, x1, x2, _⟩ := h.anyAt hc
  have far : ∀ {q : Nat} {y : Jo}, q ≠ i → JAt w g q y → JAt (Ybulkclso.set3 w g i jo) g q y := fun {q y} hq h =>
    ⟨(set3_far (by omega)).trans h.c0, (set3_far (by omega)).trans h.c1, (set3_far (by omega)).trans h.c2⟩
  refine ⟨?_, ?_, fun q h1 h2 => far (by omega) (h.lst q (by omega) h2)⟩
  · obtain ⟨cur, hb, hs⟩ := h.blk
    exact ⟨_, setCell_obj (setCell_obj (setCell_obj hb _) _) _, by simp [hs]⟩
  · intro q hq
    rw [List.length_append] at hq
    by_cases e : q = i
    · subst e
      have hg : (F ++ [jo]).getD q j0 = jo := by simp [List.getD, hi]
      rw [hg]
      unfold Ybulkclso.set3
      refine ⟨?_, ?_, ?_⟩
      · rw [World.cell?_setCell_other _ _ _ _ (by intro e; injection e; omega), World.cell?_setCell_other _ _ _ _ (by intro e; injection e; omega), World.cell?_setCell_same _ _ _ x0]
      · rw [World.cell?_setCell_other _ _ _ _ (by intro e; injection e; omega), World.cell?_setCell_same _ _ _ (u := s1) (by rw [World.cell?_setCell_other _ _ _ _ (by intro e; injection e; omega)]; exact x1)]
      · rw [World.cell?_setCell_same _ _ _ (u := s2) (by rw [World.cell?_setCell_other _ _ _ _ (by intro e; injection e; omega), World.cell?_setCell_other _ _ _ _ (by intro e; injection e; omega)]; exact x2)]
    · have hq2 : q < F.length := by simp at hq; omega
      have hg : (F ++ [jo]).getD q j0 = F.getD q j0 := by simp [List.getD, List.getElem?_append_left hq2]
      rw [hg]
      exact far e (h.fst q hq2)

theorem zero94 (w : World) : (zeroValue 94).run Yba.prog w = .ok (.agg #[.int .u64 0, .int .u64 0, .int .u64 0]) w := by kernel_rfl
theorem zeroCells3 (n : Nat) : (Builtin.zeroCells (Value.agg #[.int .u64 0, .int .u64 0, .int .u64 0]).cells n).toList = List.replicate (n * 3) (.int .u64 0) := by
  apply List.ext_getElem
  · simp [Builtin.zeroCells, Value.cells]
  · intro i h1 h2
    have hm : i % 3 < 3 := Nat.mod_lt _ (by decide)
    simp [Builtin.zeroCells, Value.cells]
    rcases Nat.lt_or_ge (i % 3) 1 with h | h
    · have : i % 3 = 0 := by omega
      simp [this]
    · rcases Nat.lt_or_ge (i % 3) 2 with h' | h'
      · have : i % 3 = 1 := by omega
        simp [this]
      · have : i % 3 = 2 := by omega
        simp [this]

theorem run_clear3 (w : World) (g i cap n : Nat) (ty : TypeId) (hin : i < n) (hc : n ≤ cap) {F J : List Jo} {j : Nat} (h : JRow w g cap F J j) :
    (Builtin.clear_ #[83] ty #[.slice (some ⟨g, i * 3, none⟩) (n - i) (cap - i)]).run Yba.prog w = .ok (.tuple #[]) (w.setCells g (i * 3) (List.replicate ((n - i) * 3) (.int .u64 0))) := by
  obtain ⟨cur, hb, hs⟩ := h.blk
  have hst := run_storeCells_cells (P := Yba.prog) g (i * 3) (List.replicate ((n - i) * 3) (.int .u64 0)) 0 w (by
    intro q hq
    have hq' : q < (n - i) * 3 := by simpa using hq
    have : i * 3 + q < cur.size := by omega
    simp [World.cell?, hb, this]) (fun q _ => frozen_of_cells hb _) (by intro v hv'; rw [List.eq_of_mem_replicate hv']; rfl)
  simp only [Nat.add_zero] at hst
  obtain ⟨m, hm⟩ : ∃ m, n - i = m + 1 := ⟨n - i - 1, by omega⟩
  rw [hm] at hst ⊢
  simp [Builtin.clear_, run_underlying Yba.underlying83, zeroCells3, hst]

theorem setCells_obj {g : Nat} {t : TypeId} : ∀ (vs : List Value) (o : Nat) (w : World) (cur : Array Value), w.heap[g]? = some (.cells cur t (0, 0)) → ∃ cur', (w.setCells g o vs).heap[g]? = some (.cells cur' t (0, 0)) ∧ cur'.size = cur.size
  | [], _, _, cur, h => ⟨cur, h, rfl⟩
  | v :: r, o, w, cur, h => by
    obtain ⟨cur', h1, h2⟩ := setCells_obj r (o + 1) (w.setCell ⟨g, o, none⟩ v) _ (setCell_obj h v)
    exact ⟨cur', h1, by rw [h2]; simp⟩
theorem setCells_grown {w : World} {g : Nat} : ∀ (vs : List Value) (o : Nat) (W : World), w.grownBy W (some g) → w.grownBy (W.setCells g o vs) (some g)
  | [], _, _, h => h
  | v :: r, o, W, h => setCells_grown r (o + 1) (W.setCell ⟨g, o, none⟩ v)
      ⟨h.os, h.tape, h.output, by simp; exact h.size, fun k hk hne => by
        rw [Below.heap_setCell _ _ _ _ (fun e => hne (by rw [e]))]; exact h.block k hk hne⟩
theorem JRow.clr {w : World} {g cap : Nat} {F J : List Jo} {i j : Nat} (h : JRow w g cap F J j) (hi : i = F.length) (vs : List Value) : JRow (w.setCells g (i * 3) vs) g cap F J J.length := by
  refine ⟨?_, fun q hq => ?_, fun q h1 h2 => by omega⟩
  · obtain ⟨cur, hb, hs⟩ := h.blk
    obtain ⟨cur', h1, h2⟩ := setCells_obj vs (i * 3) w cur hb
    exact ⟨cur', h1, by omega⟩
  · obtain ⟨c0, c1, c2⟩ := h.fst q hq
    refine ⟨?_, ?_, ?_⟩
    · rw [World.cell?_setCells_out g vs (i * 3) w _ (fun _ _ => Or.inl (by show q * 3 < i * 3; omega))]; exact c0
    · rw [World.cell?_setCells_out g vs (i * 3) w _ (fun _ _ => Or.inl (by show q * 3 + 1 < i * 3; omega))]; exact c1
    · rw [World.cell?_setCells_out g vs (i * 3) w _ (fun _ _ => Or.inl (by show q * 3 + 2 < i * 3; omega))]; exact c2

set_option maxHeartbeats 4000000 in
theorem deleteFunc_hit (g cap kb tb : Nat) (p : Jo → Bool) (J : List Jo) (k0 : Nat) (w : World) (hlen : J.length ≤ 1024) (hcap : J.length ≤ cap)
    (hk0 : k0 < J.length) (hpk : p (J.getD k0 j0) = true) (hno : ∀ j, j < k0 → p (J.getD j j0) = false)
    (hrow : JRow w g cap (J.take k0) J (k0 + 1)) (hrow0 : ∀ q, q < J.length → JAt w g q (J.getD q j0))
    (hp : ∀ W' j, w.grownBy W' (some g) → Calls Yba.prog 30 #[jv j, .pointer (some ⟨kb, 0, none⟩), .pointer (some ⟨tb, 0, none⟩)] W' fun e w' => e = .returned (.bool (p j)) ∧ Below W'.heap.size W' w') :
    Calls Yba.prog 29 #[.slice (some ⟨g, 0, none⟩) J.length cap, .func (.func 30) #[] #[.pointer (some ⟨kb, 0, none⟩), .pointer (some ⟨tb, 0, none⟩)]] w fun e w' =>
      e = .returned (.slice (some ⟨g, 0, none⟩) (kept p J J.length).length cap) ∧ w.grownBy w' (some g) ∧ JRow w' g cap (kept p J J.length) J J.length := by
  have hl : (J.length : Int) ≤ 1024 := by omega
  have hidx : jidx p J = k0 := jidx_hit hk0 hpk hno
  have HIX := indexFunc_any (some ⟨g, 0, none⟩) cap kb tb p J w hlen (fun q hq => ⟨g, rfl, hrow0 q hq⟩) (fun W' j hB => hp W' j ⟨hB.os, hB.tape, hB.output, hB.size, fun i hi _ => hB.block i hi⟩)
  rw [hidx] at HIX
  have hkk : (k0 : Int) < J.length := by omega
  have hkm : ((k0 : Int) == -1) = false := by rw [beq_eq_false_iff_ne]; omega
  clear hidx
  go_enter Yba.func29, Yba.ntmps29
  go_wp2_with (go_at_call 33; refine HIX.mono ?_; rintro e w' ⟨rfl, hb'⟩)
  have hg0 : w.grownBy w' (some g) := ⟨hb'.os, hb'.tape, hb'.output, hb'.size, fun i hi _ => hb'.block i hi⟩
  have hgw : g < w.heap.size := World.block_lt_of_cell? _ _ (hrow0 k0 hk0).c0
  have hr0 : JRow w' g cap (kept p J (k0 + 1)) J (k0 + 1) := by
    rw [kept_first hk0 hpk hno]; exact hrow.of_block (hb'.block g hgw)
  have hkl : (kept p J (k0 + 1)).length = k0 := by rw [kept_first hk0 hpk hno, List.length_take]; omega
  have HG0 : Hid _ := hg0
  have HR0 : Hid _ := hr0
  have HKL : Hid _ := hkl
  have HP : Hid _ := hp
  clear hp hrow hrow0 hno hpk hb' hg0 hr0 hkl
  go_loopw [5, 6] (fun s5 s6 wr => ∃ (i j : Nat), s5 = .int .i64 i ∧ s6 = .int .i64 j ∧ i < j ∧ j ≤ J.length ∧ i = (kept p J j).length ∧ w.grownBy wr (some g) ∧ JRow wr g cap (kept p J j) J j) (fun _ s6 _ => (J.length - intOf s6).toNat)
  case atStart => exact ⟨k0, k0 + 1, rfl, by go_num, by omega, by omega, HKL.out.symm, HG0.out, HR0.out⟩
  case round =>
    clear HG0 HR0 HKL
    obtain ⟨i, j, rfl, rfl, hij, hj, hi, hg, hR⟩ := hrel
    have HG : Hid _ := hg
    have HR : Hid _ := hR
    have HI : Hid _ := hi
    by_cases hlt : j < J.length
    · obtain ⟨d0, d1, d2⟩ := hR.lst j (Nat.le_refl _) hlt
      obtain ⟨Wv, hWv⟩ : ∃ Wv, wr.alloc (.cells #[.int .u64 (J.getD j j0).1, .int .u64 (J.getD j j0).2.1, .int .u64 (J.getD j j0).2.2] 94) = Wv := ⟨_, rfl⟩
      have v0 : Wv.cell? ⟨wr.heap.size, 0, none⟩ = some (.int .u64 (J.getD j j0).1) := by rw [← hWv]; simp
      have v1 : Wv.cell? ⟨wr.heap.size, 1, none⟩ = some (.int .u64 (J.getD j j0).2.1) := by rw [← hWv]; simp
      have v2 : Wv.cell? ⟨wr.heap.size, 2, none⟩ = some (.int .u64 (J.getD j j0).2.2) := by rw [← hWv]; simp
      have hgv : w.grownBy Wv (some g) := by rw [← hWv]; exact hg.andThen (World.grownBy_alloc wr _ none) (fun _ e => by cases e)
      have hRv : JRow Wv g cap (kept p J j) J j := by rw [← hWv]; exact hR.of_block (Below.heap_alloc _ _ _ (Nat.lt_of_lt_of_le hgw hg.size))
      have hsv : wr.heap.size < Wv.heap.size := World.block_lt_of_cell? _ _ v0
      have HQ := HP.out Wv (J.getD j j0) hgv
      have HRv : Hid _ := hRv
      have HGv : Hid _ := hgv
      clear hRv hgv hg hR hi
      by_cases he : p (J.getD j j0) = true
      · have HE : Hid _ := he
        rw [he] at HQ
        obtain ⟨jo, hjo⟩ : ∃ jo, jo = J.getD j j0 := ⟨_, rfl⟩
        rw [← hjo] at d0 d1 d2 v0 v1 v2 HQ hWv
        obtain ⟨jid, jcn, jag⟩ := jo
        unfold jv at HQ
        dsimp only at d0 d1 d2 v0 v1 v2 HQ hWv
        clear he hjo
        go_wp2_with (go_at_call 30; refine HQ.mono ?_; rintro e w2 ⟨rfl, hb2⟩)
        go_roundw
        case rel =>
          have hk := kept_succ (p := p) hlt
          rw [HE.out, if_pos rfl] at hk
          exact ⟨i, j + 1, rfl, by go_num, by omega, by omega, by rw [hk]; exact HI.out, grow_below HGv.out hb2, by rw [hk]; exact (HRv.out.of_block (hb2.block g (Nat.lt_of_lt_of_le hgw HGv.out.size))).next⟩
        case measure => simp [intOf]; omega
      · have hef : p (J.getD j j0) = false := by simpa using he
        have HE : Hid _ := hef
        rw [hef] at HQ
        obtain ⟨jo, hjo⟩ : ∃ jo, jo = J.getD j j0 := ⟨_, rfl⟩
        rw [← hjo] at d0 d1 d2 v0 v1 v2 HQ hWv
        have HJO : Hid _ := hjo
        obtain ⟨jid, jcn, jag⟩ := jo
        unfold jv at HQ
        dsimp only at d0 d1 d2 v0 v1 v2 HQ hWv
        clear he hef hjo
        have hicap : i < cap := by omega
        go_wp2_with (go_at_call 30; refine HQ.mono ?_; rintro e w2 ⟨rfl, hb2⟩; have y0 := (hb2.cell (World.block_lt_of_cell? _ _ v0)).trans v0; have y1 := (hb2.cell (World.block_lt_of_cell? _ _ v1)).trans v1; have y2 := (hb2.cell (World.block_lt_of_cell? _ _ v2)).trans v2; have HR2 : Hid _ := HRv.out.of_block (hb2.block g (Nat.lt_of_lt_of_le hgw HGv.out.size)); obtain ⟨s0, s1, s2, x0, x1, x2, f0, f1, f2⟩ := HR2.out.anyAt hicap)
        go_roundw
        case rel =>
          have hk := kept_succ (p := p) hlt
          rw [HE.out, ← HJO.out] at hk
          simp only [Bool.false_eq_true, if_false] at hk
          have h1 := set3_grown (grow_below HGv.out hb2) i (jid, jcn, jag)
          have h2 := HR2.out.set3 HI.out hij hicap (jid, jcn, jag)
          rw [← hk] at h2
          have h3 : i + 1 = (kept p J (j + 1)).length := by rw [hk, List.length_append]; have := HI.out; simp; omega
          simp only [Ybulkclso.set3] at h1 h2
          exact ⟨i + 1, j + 1, by go_num, by go_num, by omega, by omega, h3, h1, h2⟩
        case measure => simp [intOf]; omega
    · obtain rfl : j = J.length := by omega
      clear HP
      have hclr := fun ty => run_clear3 wr g i cap J.length ty hij hcap hR
      clear hR hg hi
      go_wp2_with fail
      go_ret
      exact ⟨by rw [← HI.out]; rfl, setCells_grown _ _ _ HG.out, HR.out.clr HI.out _⟩

set_option maxHeartbeats 2000000 in
theorem deleteFunc_miss (q0 : Option Addr) (cap kb tb : Nat) (p : Jo → Bool) (J : List Jo) (w : World) (hlen : J.length ≤ 1024) (hno : ∀ j, j < J.length → p (J.getD j j0) = false)
    (hrow : ∀ q, q < J.length → ∃ g, q0 = some ⟨g, 0, none⟩ ∧ JAt w g q (J.getD q j0))
    (hp : ∀ W' j, Below w.heap.size w W' → Calls Yba.prog 30 #[jv j, .pointer (some ⟨kb, 0, none⟩), .pointer (some ⟨tb, 0, none⟩)] W' fun e w' => e = .returned (.bool (p j)) ∧ Below W'.heap.size W' w') :
    Calls Yba.prog 29 #[.slice q0 J.length cap, .func (.func 30) #[] #[.pointer (some ⟨kb, 0, none⟩), .pointer (some ⟨tb, 0, none⟩)]] w fun e w' =>
      e = .returned (.slice q0 J.length cap) ∧ Below w.heap.size w w' := by
  have HIX := indexFunc_any q0 cap kb tb p J w hlen hrow hp
  rw [jidx_miss hno] at HIX
  clear hrow hp hno
  go_enter Yba.func29, Yba.ntmps29
  go_wp2_with (go_at_call 33; refine HIX.mono ?_; rintro e w' ⟨rfl, hb'⟩)
  go_ret
  exact ⟨rfl, hb'⟩

theorem jcells_get : ∀ {J : List Jo} {q : Nat}, q < J.length → (jcells J)[q * 3]? = some (.int .u64 (J.getD q j0).1) ∧ (jcells J)[q * 3 + 1]? = some (.int .u64 (J.getD q j0).2.1) ∧ (jcells J)[q * 3 + 2]? = some (.int .u64 (J.getD q j0).2.2)
  | [], _, h => absurd h (Nat.not_lt_zero _)
  | j :: r, 0, _ => by simp [jcells]
  | j :: r, q + 1, h => by
    obtain ⟨h0, h1, h2⟩ := jcells_get (J := r) (q := q) (by simpa using h)
    have e : jcells (j :: r) = .int .u64 j.1 :: .int .u64 j.2.1 :: .int .u64 j.2.2 :: jcells r := by simp [jcells]
    have n0 : (q + 1) * 3 = q * 3 + 1 + 1 + 1 := by omega
    rw [e, n0]
    simp only [List.getElem?_cons_succ, List.getD_cons_succ]
    exact ⟨h0, h1, h2⟩

theorem JAt.of_own {w : World} {base g cap : Nat} {J : List Jo} (h : w.ownsRow base 94 3 (.slice (some ⟨g, 0, none⟩) J.length cap) J.length (jcells J)) {q : Nat} (hq : q < J.length) : JAt w g q (J.getD q j0) := by
  obtain ⟨h0, h1, h2⟩ := jcells_get hq
  exact ⟨(h.cellAt (q * 3) (by omega)).trans h0, (h.cellAt (q * 3 + 1) (by omega)).trans h1, (h.cellAt (q * 3 + 2) (by omega)).trans h2⟩

theorem JRow.own {w : World} {base g cap : Nat} {F J : List Jo} {j : Nat} (h : JRow w g cap F J j) (hb : base ≤ g) (hF : F.length ≤ cap) (hc : cap ≤ maxLen) : w.ownsRow base 94 3 (.slice (some ⟨g, 0, none⟩) F.length cap) F.length (jcells F) := by
  obtain ⟨cur, hh, hs⟩ := h.blk
  refine ⟨jcells_length F, Or.inr ⟨g, cap, cur, rfl, hb, hh, hF, hc, hs, ?_⟩⟩
  have hcell : ∀ o, w.cell? ⟨g, o, none⟩ = cur[o]? := fun o => by simp [World.cell?, hh]
  apply List.ext_getElem?
  intro o
  by_cases ho : o < F.length * 3
  · rw [List.getElem?_take_of_lt ho]
    have hq : o / 3 < F.length := by omega
    obtain ⟨c0, c1, c2⟩ := h.fst (o / 3) hq
    obtain ⟨h0, h1, h2⟩ := jcells_get hq
    rw [hcell] at c0 c1 c2
    have h3 : o % 3 = 0 ∨ o % 3 = 1 ∨ o % 3 = 2 := by omega
    rw [Array.getElem?_toList]
    rcases h3 with h3 | h3 | h3
    · have e : o = o / 3 * 3 := by omega
      rw [e, c0, h0]
    · have e : o = o / 3 * 3 + 1 := by omega
      rw [e, c1, h1]
    · have e : o = o / 3 * 3 + 2 := by omega
      rw [e, c2, h2]
  · rw [List.getElem?_eq_none (by simp; omega), List.getElem?_eq_none (by rw [jcells_length]; omega)]

theorem kept_all (p : Jo → Bool) (J : List Jo) : kept p J J.length = J.filter (fun x => !p x) := by simp [kept]

/-- slices.DeleteFunc, on a row that the call owns. -/
theorem deleteFunc_any (base kb tb : Nat) (p : Jo → Bool) (vJ : Value) (J : List Jo) (w : World) (hlen : J.length ≤ 1024) (hown : w.ownsRow base 94 3 vJ J.length (jcells J))
    (hp : ∀ W' j, w.grownBy W' vJ.ownBlock → Calls Yba.prog 30 #[jv j, .pointer (some ⟨kb, 0, none⟩), .pointer (some ⟨tb, 0, none⟩)] W' fun e w' => e = .returned (.bool (p j)) ∧ Below W'.heap.size W' w') :
    Calls Yba.prog 29 #[vJ, .func (.func 30) #[] #[.pointer (some ⟨kb, 0, none⟩), .pointer (some ⟨tb, 0, none⟩)]] w fun e w' =>
      ∃ vJ', e = .returned vJ' ∧ w.grownBy w' vJ.ownBlock ∧ w'.ownsRow base 94 3 vJ' (J.filter (fun x => !p x)).length (jcells (J.filter (fun x => !p x))) ∧ ∀ k, vJ'.ownBlock = some k → vJ.ownBlock = some k := by
  have hb2 : ∀ W', Below w.heap.size w W' → w.grownBy W' vJ.ownBlock := fun W' hB => ⟨hB.os, hB.tape, hB.output, hB.size, fun i hi _ => hB.block i hi⟩
  by_cases hex : ∃ k, k < J.length ∧ p (J.getD k j0) = true ∧ ∀ j, j < k → p (J.getD j j0) = false
  · obtain ⟨k0, hk0, hpk, hno⟩ := hex
    rcases Joins.ownsRow_forms hown with ⟨_, h0⟩ | ⟨g, cap, rfl⟩
    · omega
    · have hat := fun q (hq : q < J.length) => JAt.of_own hown hq
      obtain ⟨_, hr⟩ := hown
      rcases hr with ⟨h, _⟩ | ⟨g', cap', cur, he, hb, hh, hcap, hmax, hs, _⟩
      · cases h
      · injection he with h1 h2 h3
        injection h1 with h1
        injection h1 with h1
        subst h1
        subst h3
        have hrow : JRow w g cap (J.take k0) J (k0 + 1) := ⟨⟨cur, hh, hs⟩, fun q hq => by
          rw [List.length_take] at hq
          have e : (J.take k0).getD q j0 = J.getD q j0 := by simp [List.getD, List.getElem?_take_of_lt (show q < k0 by omega)]
          rw [e]; exact hat q (by omega), fun q _ h2 => hat q h2⟩
        refine (deleteFunc_hit g cap kb tb p J k0 w hlen hcap hk0 hpk hno hrow hat hp).mono ?_
        rintro e w' ⟨rfl, hg, hR⟩
        rw [kept_all] at hR ⊢
        refine ⟨_, rfl, hg, hR.own hb (Nat.le_trans (List.length_filter_le _ _) hcap) hmax, fun k h => h⟩
  · have hno : ∀ j, j < J.length → p (J.getD j j0) = false := by
      intro j
      induction j using Nat.strongRecOn with
      | ind j ih =>
        intro hj
        cases hpj : p (J.getD j j0) with
        | false => rfl
        | true => exact absurd ⟨j, hj, hpj, fun i hi => ih i hi (by omega)⟩ hex
    have hf : J.filter (fun x => !p x) = J := by
      rw [← kept_all, kept_none (Nat.le_refl _) hno, List.take_length]
    rw [hf]
    rcases Joins.ownsRow_forms hown with ⟨h1, h0⟩ | ⟨g, cap, rfl⟩
    · subst h1
      obtain rfl : J = [] := List.eq_nil_of_length_eq_zero h0
      refine (deleteFunc_miss none 0 kb tb p [] w hlen hno (fun q hq => absurd hq (Nat.not_lt_zero _)) (fun W' j hB => hp W' j (hb2 W' hB))).mono ?_
      rintro e w' ⟨rfl, hb'⟩
      exact ⟨_, rfl, hb2 _ hb', World.ownsRow_nil _ _ _ _, fun k h => h⟩
    · refine (deleteFunc_miss (some ⟨g, 0, none⟩) cap kb tb p J w hlen hno (fun q hq => ⟨g, rfl, JAt.of_own hown hq⟩) (fun W' j hB => hp W' j (hb2 W' hB))).mono ?_
      rintro e w' ⟨rfl, hb'⟩
      refine ⟨_, rfl, hb2 _ hb', ?_, fun k h => h⟩
      obtain ⟨hl, hr⟩ := hown
      refine ⟨hl, ?_⟩
      rcases hr with h | ⟨g', cap', cur, he, hb, hh, rest⟩
      · exact Or.inl h
      · exact Or.inr ⟨g', cap', cur, he, hb, (hb'.block g' (Array.getElem?_eq_some_iff.1 hh).1).trans hh, rest⟩
end Go.Proofs.Ybulkclso
