import Derived.Test.YbulkclsoDelf
import Derived.Test.YbulkclsoKnown
import Derived.Maps.OwnIn
namespace Go.Proofs.Ybulkclso
open Go.RowKit Go.Maps Go.Shelf
attribute [local go_sem] Oper.semAt_some

/-- The named set. -/
abbrev NMap (w : World) (m n : Nat) (D : DataW Unit) : Prop := w.ownsMap Yba.prog 22 (plainElem Yba.prog 4) m n D
def setN (xs : List Int) : DataW Unit := setOf (.lit (.bool true)) (xs.map (Lit.int .u64))
theorem setN_snoc (xs : List Int) (x : Int) : setN (xs ++ [x]) = (setN xs).put (.int .u64 x) (.lit (.bool true)) := by
  rw [setN, List.map_append]; exact setOf_snoc _ _ _

/-- Nothing but what lies in blocks lo .. hi - 1 has turned. -/
structure Span (lo hi : Nat) (w w' : World) : Prop where
  os : w'.os = w.os
  tape : w'.tape = w.tape
  output : w'.output = w.output
  size : w.heap.size ≤ w'.heap.size
  block : ∀ k, k < w.heap.size → (k < lo ∨ hi ≤ k) → w'.heap[k]? = w.heap[k]?

theorem knownL_u {E S P : List Int} (hE : ∀ x ∈ E, U64 x) (hS : ∀ x ∈ S, U64 x) (hP : ∀ x ∈ P, U64 x) : ∀ x ∈ knownL E S P, U64 x := by
  intro x hx
  rw [knownL, List.mem_append] at hx
  rcases hx with hx | hx
  · obtain ⟨y, hy, rfl⟩ := List.mem_map.1 hx
    rw [upS, List.mem_append] at hy
    rcases hy with hy | hy
    · rw [upE] at hy
      obtain ⟨i, hi, rfl⟩ := List.mem_map.1 hy
      have hlt : E.length - 1 - i < E.length := by simp at hi; omega
      exact hE _ (by simp [eAt, List.getD, hlt])
    · obtain ⟨i, hi, rfl⟩ := List.mem_map.1 hy
      have hlt : i < S.length := by simpa using hi
      exact hS _ (by simp [List.getD, hlt])
  · exact hP x hx
theorem knownL_length (E S P : List Int) : (knownL E S P).length = E.length + S.length + P.length := by simp [knownL, upS, upE]; omega

theorem grow_up {W A A' : World} {m : Nat} (h : W.grownBy A (some m)) (hb : Below W.heap.size A A') : W.grownBy A' (some m) :=
  ⟨hb.os.trans h.os, hb.tape.trans h.tape, hb.output.trans h.output, Nat.le_trans h.size hb.size, fun i hi hne => (hb.block i hi).trans (h.block i hi hne)⟩
theorem grow_cell {W A : World} {m : Nat} (h : W.grownBy A (some m)) {a : Addr} {v : Value} (hc : W.cell? a = some v) (hne : a.block ≠ m) : A.cell? a = some v :=
  (World.cell?_of_block (w := W) (a := a) (h.block a.block (World.block_lt_of_cell? _ _ hc) (fun e => hne (by injection e)))).trans hc
theorem grow_cs {W A : World} {m : Nat} (h : W.grownBy A (some m)) {p : Option Addr} {xs : List Int} (hc : Cs W p xs) {es : Array MapEntry} {ck : Nat} (hm : W.heap[m]? = some (.map es ck)) : Cs A p xs := fun j hj => by
  obtain ⟨b, o, e, h1⟩ := hc j hj
  refine ⟨b, o, e, grow_cell h h1 ?_⟩
  intro e1
  have e2 : b = m := e1
  subst e2
  simp [World.cell?, hm] at h1

theorem w5_facts (w : World) (b : Nat) (keep : Int) :
    let W5 := ((((w.alloc (.cells #[.pointer (some ⟨b, 0, none⟩)] 54)).alloc (.cells #[.int .u64 keep] 22)).alloc (.map #[] 0)).alloc (.cells #[.map (some (w.heap.size + 1 + 1))] 100)).alloc (.cells #[.pointer (some ⟨b, 0, none⟩)] 54)
    W5.heap.size = w.heap.size + 5 ∧ Below w.heap.size w W5 ∧ W5.cell? ⟨w.heap.size, 0, none⟩ = some (.pointer (some ⟨b, 0, none⟩)) ∧ W5.cell? ⟨w.heap.size + 1, 0, none⟩ = some (.int .u64 keep) ∧
    W5.cell? ⟨w.heap.size + 1 + 1 + 1, 0, none⟩ = some (.map (some (w.heap.size + 1 + 1))) ∧ W5.cell? ⟨w.heap.size + 1 + 1 + 1 + 1, 0, none⟩ = some (.pointer (some ⟨b, 0, none⟩)) ∧ NMap W5 (w.heap.size + 1 + 1) 0 (setN []) := by
  obtain ⟨A0, h0⟩ : ∃ A0 : Obj, A0 = .cells #[.pointer (some ⟨b, 0, none⟩)] 54 := ⟨_, rfl⟩
  obtain ⟨A1, h1⟩ : ∃ A1 : Obj, A1 = .cells #[.int .u64 keep] 22 := ⟨_, rfl⟩
  obtain ⟨A3, h3⟩ : ∃ A3 : Obj, A3 = .cells #[.map (some (w.heap.size + 1 + 1))] 100 := ⟨_, rfl⟩
  rw [← h0, ← h1, ← h3]
  intro W5
  have b4 : Below (((w.alloc A0).alloc A1).alloc (.map #[] 0)).heap.size (((w.alloc A0).alloc A1).alloc (.map #[] 0)) W5 := bs_alloc (al A3) A0
  have b3 : Below ((w.alloc A0).alloc A1).heap.size ((w.alloc A0).alloc A1) W5 := bs_call (al _) b4
  have b2 : Below (w.alloc A0).heap.size (w.alloc A0) W5 := bs_call (al _) b3
  have b1 : Below w.heap.size w W5 := bs_call (al _) b2
  have s0 : w.heap[w.heap.size]? = none := by simp
  have e0 : W5.heap[w.heap.size]? = some A0 := (b2.block _ (by simp)).trans (World.alloc_heap_new _ _)
  have e1 : W5.heap[w.heap.size + 1]? = some A1 := by
    have := (b3.block (w.alloc A0).heap.size (by simp)).trans (World.alloc_heap_new (w.alloc A0) A1)
    rwa [World.size_alloc] at this
  have e3 : W5.heap[w.heap.size + 1 + 1 + 1]? = some A3 := by
    have := ((al A0).block (((w.alloc A0).alloc A1).alloc (.map #[] 0)).heap.size (by simp)).trans (World.alloc_heap_new (((w.alloc A0).alloc A1).alloc (.map #[] 0)) A3)
    rwa [show (((w.alloc A0).alloc A1).alloc (.map #[] 0)).heap.size = w.heap.size + 1 + 1 + 1 by simp] at this
  have e4 : W5.heap[w.heap.size + 1 + 1 + 1 + 1]? = some A0 := by
    have := World.alloc_heap_new ((((w.alloc A0).alloc A1).alloc (.map #[] 0)).alloc A3) A0
    rwa [show ((((w.alloc A0).alloc A1).alloc (.map #[] 0)).alloc A3).heap.size = w.heap.size + 1 + 1 + 1 + 1 by simp] at this
  refine ⟨by simp [W5], b1, ?_, ?_, ?_, ?_, ?_⟩
  · simp [World.cell?, e0, h0]
  · simp [World.cell?, e1, h1]
  · simp [World.cell?, e3, h3]
  · simp [World.cell?, e4, h0]
  · have := World.ownsMap_made ((w.alloc A0).alloc A1) Yba.prog 22 (plainElem (H := Unit) Yba.prog 4)
    obtain ⟨es, ck, he, rest⟩ := this
    have hh := (b4.block _ (Array.getElem?_eq_some_iff.1 he).1).trans he
    simp only [World.size_alloc] at hh
    exact ⟨es, ck, hh, rest⟩

theorem atKey_fold (u : DataW Unit) (k : Lit) (hk : WideAt.IsKeyLit k) (z : DataW Unit) : ∀ (acc : List Lit) (m : DataW Unit), IsMap m → (acc.foldl (fun m x => m.put x u) m).atKey k z = if acc.any (fun x => x.sameKey k) then u else m.atKey k z
  | [], m, _ => by simp
  | x :: r, m, hm => by
    rw [List.foldl_cons, atKey_fold u k hk z r (m.put x u) (hm.put x u), List.any_cons]
    by_cases e : k = x
    · subst e
      rw [atKey_put_same hm hk, WideAt.sameKey_self hk]
      simp
    · rw [atKey_put_other e, sameKey_ne (fun e' => e e'.symm)]
      simp

theorem any_lit (xs : List Int) (x : Int) : (xs.map (Lit.int .u64)).any (fun y => y.sameKey (.int .u64 x)) = decide (x ∈ xs) := by
  induction xs with
  | nil => simp
  | cons y r ih =>
    rw [List.map_cons, List.any_cons, ih]
    by_cases e : y = x
    · subst e
      rw [WideAt.sameKey_self (show WideAt.IsKeyLit (Lit.int .u64 y) from trivial)]
      simp
    · rw [sameKey_ne (fun e' => e (by injection e'))]
      simp [show ¬ x = y from fun e' => e e'.symm]

theorem bool_inv {Pg : Program} {e : TypeId} (he : Pg.underlying e = some .bool) {v : Value} {c : Bool} {ps : List MemPlace} (h : plainElem (H := Unit) Pg e v = some (.lit (.bool c), ps)) : v = .bool c := by
  unfold plainElem at h
  rw [he] at h
  cases v <;> simp at h
  rw [h.1]

/-- 'named[x]' -/
theorem named_look {w : World} {m n : Nat} {xs : List Int} (h : NMap w m n (setN xs)) {x : Int} (hx : U64 x) : (Instr.lookup 100 (.map (some m)) (.int .u64 x) false).run Yba.prog w = .ok (.bool (decide (x ∈ xs))) w := by
  have hz : (zeroValue 4).run Yba.prog w = .ok (.bool false) w := by kernel_rfl
  obtain ⟨v, ps, hrun, hv⟩ := h.lookup law22 Yba.underlying100 hz (plainElem_bool Yba.underlying4 false) (keyOf_int_mk Yba.underlying22 (wf_u64 hx))
  have hk : (setN xs).atKey (.int .u64 x) (.lit (.bool false)) = .lit (.bool (decide (x ∈ xs))) := by
    unfold setN setOf
    rw [atKey_fold (.lit (.bool true)) (.int .u64 x) (show WideAt.IsKeyLit (Lit.int .u64 x) from trivial) _ _ _ isMap_empty, any_lit]
    cases decide (x ∈ xs) <;> rfl
  rw [hk] at hv
  rw [hrun, bool_inv Yba.underlying4 hv]

theorem u64_of_wf {x : Int} (h : (Lit.int .u64 x).wf = true) : U64 x := by
  simp [Lit.wf, IntKind.min, IntKind.max, IntKind.signed, IntKind.bits] at h
  exact ⟨by omega, by omega⟩

/-- Between two rounds of the loop over heard. -/
structure ExInv (W6 : World) (r : Rec) (E P S : List Int) (D0 : DataW Unit) (wr0 : Int) (vJ : Value) (J : List Jo) (age : Int) (st : Lit → Bool) (wx : World) (left : Lit → Bool) (cnt : Nat) (D : DataW Unit) (del : Nat) : Prop where
  rng : wx.ranges Yba.prog 22 hElem r.m W6.heap.size r.n D left cnt
  hasD : ∀ kl, has D kl = (has D0 kl && (left kl || st kl))
  siz : size D + del = size D0
  tab : TabS wx r E P S D (IntKind.u64.wrap (wr0 + del)) vJ J age
  os : wx.os = W6.os
  tape : wx.tape = W6.tape
  output : wx.output = W6.output
  hsz : W6.heap.size < wx.heap.size
  kept : ∀ k, k < W6.heap.size → k ≠ r.m → k ≠ r.b → wx.heap[k]? = W6.heap[k]?

theorem strike_same (left : Lit → Bool) {kl : Lit} (hk : WideAt.IsKeyLit kl) : (left kl && !kl.sameKey kl) = false := by rw [WideAt.sameKey_self hk]; simp
theorem strike_other (left : Lit → Bool) {kl k : Lit} (h : ¬ k = kl) : (left k && !k.sameKey kl) = left k := by rw [sameKey_ne h]; simp

/-- The round's key stays. -/
theorem ExInv.stay {W6 : World} {r : Rec} {E P S : List Int} {D0 : DataW Unit} {wr0 : Int} {vJ : Value} {J : List Jo} {age : Int} {st : Lit → Bool} {wx : World} {left : Lit → Bool} {cnt : Nat} {D : DataW Unit} {del : Nat}
    (h : ExInv W6 r E P S D0 wr0 vJ J age st wx left cnt D del) {W : World} {kl : Lit} {cnt' : Nat} (hk : WideAt.IsKeyLit kl) (hst : st kl = true) (hr : W.ranges Yba.prog 22 hElem r.m W6.heap.size r.n D (fun z => left z && !z.sameKey kl) cnt')
    (ht : TabS W r E P S D (IntKind.u64.wrap (wr0 + del)) vJ J age) (ho : W.os = W6.os ∧ W.tape = W6.tape ∧ W.output = W6.output) (hs : W6.heap.size < W.heap.size) (hkp : ∀ k, k < W6.heap.size → k ≠ r.m → k ≠ r.b → W.heap[k]? = W6.heap[k]?) :
    ExInv W6 r E P S D0 wr0 vJ J age st W (fun z => left z && !z.sameKey kl) cnt' D del := by
  refine ⟨hr, fun k => ?_, h.siz, ht, ho.1, ho.2.1, ho.2.2, hs, hkp⟩
  rw [h.hasD k]
  by_cases e : k = kl
  · subst e; rw [strike_same left hk, hst]; simp
  · rw [strike_other left e]

/-- The round's key goes. -/
theorem ExInv.drop {W6 : World} {r : Rec} {E P S : List Int} {D0 : DataW Unit} {wr0 : Int} {vJ : Value} {J : List Jo} {age : Int} {st : Lit → Bool} {wx : World} {left : Lit → Bool} {cnt : Nat} {D : DataW Unit} {del : Nat}
    (h : ExInv W6 r E P S D0 wr0 vJ J age st wx left cnt D del) {W : World} {kl : Lit} {cnt' : Nat} (hk : WideAt.IsKeyLit kl) (hst : st kl = false) (hD : has D kl = true) (hr : W.ranges Yba.prog 22 hElem r.m W6.heap.size r.n (D.del kl) (fun z => left z && !z.sameKey kl) cnt')
    (ht : TabS W r E P S (D.del kl) (IntKind.u64.wrap (wr0 + (del + 1 : Nat))) vJ J age) (ho : W.os = W6.os ∧ W.tape = W6.tape ∧ W.output = W6.output) (hs : W6.heap.size < W.heap.size) (hkp : ∀ k, k < W6.heap.size → k ≠ r.m → k ≠ r.b → W.heap[k]? = W6.heap[k]?) :
    ExInv W6 r E P S D0 wr0 vJ J age st W (fun z => left z && !z.sameKey kl) cnt' (D.del kl) (del + 1) := by
  refine ⟨hr, fun k => ?_, ?_, ht, ho.1, ho.2.1, ho.2.2, hs, hkp⟩
  · by_cases e : k = kl
    · subst e; rw [has_del_same, hst, strike_same left hk]; simp
    · rw [has_del_other e, h.hasD k, strike_other left e]
  · have h1 := size_del (k := kl) (h.rng.owns.tidy law22)
    rw [hD] at h1
    have h2 := h.siz
    simp at h1
    omega

theorem wrap_step (a : Int) (d : Nat) : IntKind.u64.wrap (IntKind.u64.wrap (a + d) + 1) = IntKind.u64.wrap (a + (d + 1 : Nat)) := by
  simp [IntKind.wrap, IntKind.signed, IntKind.bits]
  omega

theorem wrap_u64 {x : Int} (h : U64 x) : IntKind.u64.wrap x = x := by
  obtain ⟨h1, h2⟩ := h
  simp [IntKind.wrap, IntKind.signed, IntKind.bits]
  omega

set_option maxRecDepth 100000 in
set_option maxHeartbeats 8000000 in
theorem expire_any (r : Rec) (E P S : List Int) (D0 : DataW Unit) (wr0 : Int) (vJ : Value) (J : List Jo) (age keep : Int) (w : World) (hT : TabS w r E P S D0 wr0 vJ J age)
    (hE : E.length ≤ 1024) (hP : P.length ≤ 1024) (hS : S.length ≤ 1024) (hJ : J.length ≤ 1024) (uE : ∀ x ∈ E, U64 x) (uP : ∀ x ∈ P, U64 x) (uS : ∀ x ∈ S, U64 x) (uK : U64 keep) (uW : U64 wr0) :
    Calls Yba.prog 23 #[.pointer (some ⟨r.b, 0, none⟩), .int .u64 keep] w fun e w' => (∃ v, e = .returned v) ∧ Span r.lo r.hi w w' ∧ ∃ (D' : DataW Unit) (del : Nat) (vJ' : Value), TabS w' r E P S D' (IntKind.u64.wrap (wr0 + del)) vJ' (J.filter (fun j => !dies keep age j.2.2)) (IntKind.u64.wrap (age + 1)) ∧ size D' + del = size D0 ∧
      ∀ kl, has D' kl = (has D0 kl && (((knownL E S P).map (Lit.int .u64)).any (fun y => y.sameKey kl) || !dies keep age 0)) := by
  have hmm := @run_makeMap Yba.prog
  obtain ⟨N, hN⟩ : ∃ N, N = w.heap.size := ⟨_, rfl⟩
  obtain ⟨W5, hW5⟩ : ∃ W5, ((((w.alloc (.cells #[.pointer (some ⟨r.b, 0, none⟩)] 54)).alloc (.cells #[.int .u64 keep] 22)).alloc (.map #[] 0)).alloc (.cells #[.map (some (w.heap.size + 1 + 1))] 100)).alloc (.cells #[.pointer (some ⟨r.b, 0, none⟩)] 54) = W5 := ⟨_, rfl⟩
  refine (callsIn_wide (n := 0)).1 ?_
  refine callsIn_of_wp_marks Yba.func23 rfl trivial ?_ rfl
  simp only [Yba.ntmps23, List.size_toArray, List.length_cons, List.length_nil, Nat.reduceAdd, Nat.reduceSub, Array.replicate_succ, Array.replicate_zero, List.push_toArray, List.append_toArray, List.nil_append, List.cons_append]
  have hfn : ∀ f, Fence.wide.fn f := fun _ => trivial
  have hdp : Fence.wide.depth = none := rfl
  obtain ⟨s5, b5, c0, c1, c3, c4, n5⟩ := w5_facts w r.b keep
  rw [hW5] at s5 b5 c0 c1 c3 c4 n5
  have t5 := hT.keep (w' := W5) (by have := hT.hi; omega) (fun k _ hk => b5.block k (by have := hT.hi; omega))
  gi_wp2_with (gi_at_call 28; refine (known_any _ _).mono ?_; rintro e w' ⟨rfl, rfl⟩)
  clear hW5
  have hbN : r.b < w.heap.size := by have := hT.bhi; have := hT.hi; omega
  have n5' := n5
  obtain ⟨es0, ck0, hes, hres⟩ := n5'
  clear hres
  refine wpIn_rangeAll (gf := 31) (lb := #[.pointer (some ⟨w.heap.size + 1 + 1 + 1 + 1, 0, none⟩)]) rfl (enters_of Yba.func31 (by kernel_rfl) rfl) (known1_any (w.heap.size + 1 + 1 + 1 + 1) r.b r.pe r.ce E r.ps r.cs S r.pp r.cp P hE hS hP) (fun _ => rfl)
    (fun pre A => W5.grownBy A (some (w.heap.size + 1 + 1)) ∧ NMap A (w.heap.size + 1 + 1) pre.length (setN pre))
    ?hI ?hR ⟨⟨rfl, rfl, rfl, Nat.le_refl _, fun _ _ _ => rfl⟩, n5⟩
    (fun x => { tmps := #[.pointer (some ⟨r.b, 0, none⟩), .int .u64 keep, .pointer (some ⟨w.heap.size, 0, none⟩), .pointer (some ⟨w.heap.size + 1, 0, none⟩), .pointer (some ⟨w.heap.size + 1 + 1 + 1, 0, none⟩), .int .u64 x, undef, undef, .map (some (w.heap.size + 1 + 1)), .pointer (some ⟨r.b, 0, none⟩), .func (.func 31) #[] #[.pointer (some ⟨w.heap.size + 1 + 1 + 1 + 1, 0, none⟩)], .int .u64 x, undef, undef, undef, undef, undef, undef, undef, undef, undef, undef, undef, undef, undef, undef, undef, undef, undef, undef, undef, undef, undef, undef, undef, undef, undef, undef, undef, undef, undef, undef, undef, undef, undef, undef, undef, undef, undef, undef, undef, undef, undef, undef, undef, undef, undef, undef, undef, undef, undef, undef, undef, undef, undef, undef, undef], defers := [] })
    ?assign ?body ?done
  case hI =>
    rintro s A A' ⟨h1, h2⟩ hb
    refine ⟨grow_up h1 hb, ?_⟩
    obtain ⟨es, ck, he, rest⟩ := h2
    exact ⟨es, ck, (hb.block _ (by omega)).trans he, rest⟩
  case hR =>
    rintro s A ⟨h1, _⟩
    obtain ⟨q1, q2, q8, _⟩ := t5.cellP
    exact ⟨grow_cell h1 c4 (by show w.heap.size + 1 + 1 + 1 + 1 ≠ _; omega), grow_cell h1 q8 (by show r.b ≠ _; omega), grow_cell h1 q2 (by show r.b ≠ _; omega), grow_cell h1 q1 (by show r.b ≠ _; omega), grow_cs h1 t5.ecs.cs hes, grow_cs h1 t5.scs.cs hes, grow_cs h1 t5.pcs.cs hes⟩
  case assign =>
    intro l x A K hK
    gi_wp2
    exact hK
  case body =>
    rintro l pre x A hl1 hl2 ⟨h1, h2⟩ hpre
    have hx : U64 x := knownL_u uE uS uP x (hpre.subset (by simp))
    have hlen : pre.length < maxLen := by
      have := hpre.length_le
      rw [knownL_length, List.length_append] at this
      unfold maxLen
      simp at this
      omega
    have c3' := grow_cell h1 c3 (by show w.heap.size + 1 + 1 + 1 ≠ _; omega)
    have hkey := keyOf_int_mk (P := Yba.prog) (k := 22) (q := .u64) Yba.underlying22 (wf_u64 hx)
    gi_wp2_with (gi_at_mapUpdate; refine wpListIn_mapUpdate_own _ rfl _ _ _ 100 rfl 22 4 law22 Yba.underlying100 _ (w.heap.size + 1 + 1) pre.length _ rfl h2 hlen _ _ _ rfl rfl hkey _ [] (plainElem_bool Yba.underlying4 true) ?_; intro w1 hown1 hgrow1)
    exact ⟨⟨h1.andThen hgrow1 (fun j e => Or.inr e), by rw [setN_snoc, List.length_append]; exact hown1⟩, hgrow1.size, fun k hk hlt => hgrow1.block k hlt (fun e => by injection e; omega)⟩
  case done =>
    rintro D6 W6 hD ⟨h1, h2⟩ hK
    have HFIN : Hid _ := hK
    have t6 : TabS W6 r E P S D0 wr0 vJ J age := t5.keep (by have := t5.hi; have := h1.size; omega) (fun k _ hk => h1.block k (by have := t5.hi; omega) (fun e => by injection e; have := hT.hi; omega))
    have d0 := grow_cell h1 c0 (by show w.heap.size ≠ _; omega)
    have d1 := grow_cell h1 c1 (by show w.heap.size + 1 ≠ _; omega)
    have d3 := grow_cell h1 c3 (by show w.heap.size + 1 + 1 + 1 ≠ _; omega)
    have HSP : Hid (∀ k, k < w.heap.size → W6.heap[k]? = w.heap[k]?) := fun k hk => (h1.block k (by omega) (fun e => by injection e; omega)).trans (b5.block k hk)
    have HOS : Hid (W6.os = w.os ∧ W6.tape = w.tape ∧ W6.output = w.output) := ⟨h1.os.trans b5.os, h1.tape.trans b5.tape, h1.output.trans b5.output⟩
    have hs6 : w.heap.size + 5 ≤ W6.heap.size := by have := h1.size; omega
    have HD6 : Hid (w.heap.size + 5 ≤ D6) := by show _ ≤ _; omega
    clear c0 c1 c3 c4 t5 h1 b5 s5 hes n5 hK hfn hdp
    rename_i Kq hKq
    refine hKq _ _ (wpIn_wide.2 ?_)
    clear hKq
    obtain ⟨q1, q2, q8, q10, q11, q13, q19, f11, f13, f19⟩ := t6.cellP
    have hown := t6.map
    go_wp2_with (first | (at_range; refine wpList_range_own _ rfl _ 80 rfl 22 90 law22 Yba.underlying80 _ r.m r.n D0 rfl hown ?_; intro w0 hrg0 hg0 hs0))
    go_frame
    have hhi6 : r.hi ≤ W6.heap.size := t6.hi
    have HINV0 : Hid (ExInv W6 r E P S D0 wr0 vJ J age (fun kl => ((knownL E S P).map (Lit.int .u64)).any (fun y => y.sameKey kl) || !dies keep age 0) w0 (has D0) (size D0) D0 0) := by
      refine ⟨hrg0, fun kl => by cases has D0 kl <;> simp, by simp, ?_, hg0.os, hg0.tape, hg0.output, by omega, fun k hk _ _ => hg0.block k hk (by simp)⟩
      have : IntKind.u64.wrap (wr0 + ((0 : Nat) : Int)) = wr0 := by rw [Int.ofNat_zero, Int.add_zero]; exact wrap_u64 uW
      rw [this]
      exact t6.keep (by have := hg0.size; omega) (fun k _ hk => hg0.block k (by omega) (by simp))
    have H2 : Hid _ := h2
    have HD0 : Hid _ := d0
    have HD1 : Hid _ := d1
    have HD3 : Hid _ := d3
    have HT6 : Hid _ := t6
    have HT : Hid _ := hT
    clear q1 q2 q8 q10 q11 q13 q19 f11 f13 f19 hown hrg0 hg0 hs0 h2 d0 d1 d3 t6 hT
    go_loopw [6] (fun _ wx => ∃ left cnt D del, ExInv W6 r E P S D0 wr0 vJ J age (fun kl => ((knownL E S P).map (Lit.int .u64)).any (fun y => y.sameKey kl) || !dies keep age 0) wx left cnt D del) (fun _ wx => wx.rangeLeft r.m W6.heap.size)
    case atStart => exact ⟨_, _, _, _, HINV0.out⟩
    case round =>
      clear HINV0
      obtain ⟨left, cnt, D, del, hinv⟩ := hrel
      have hrg := hinv.rng
      have HI : Hid _ := hinv
      clear hinv
      go_wp2_with (first | (at_next; refine wpList_next_ranges _ rfl _ rfl 22 law22 hElem (Value.int .u64) (fun _ : Unit => hz) (fun key kl h => by obtain ⟨x, h1, _⟩ := keyOf_int_inv Yba.underlying22 h; exact ⟨x, h1⟩) (fun v y h => ⟨(), (hElem_inv h).1⟩) r.m W6.heap.size r.n D left cnt rfl hrg ?_ ?_))
      · intro hc0 hl0
        have hT7 := HI.out.tab
        have hs7 := HI.out.hsz
        have hmb := hT7.mb
        have hbh := hT7.bhi
        have hhw := HT.out.hi
        have g0 : wr.cell? ⟨w.heap.size, 0, none⟩ = some (.pointer (some ⟨r.b, 0, none⟩)) := (World.cell?_of_block (w := W6) (a := ⟨w.heap.size, 0, none⟩) (HI.out.kept _ (by show w.heap.size < _; omega) (by show w.heap.size ≠ _; omega) (by show w.heap.size ≠ _; omega))).trans HD0.out
        have g1 : wr.cell? ⟨w.heap.size + 1, 0, none⟩ = some (.int .u64 keep) := (World.cell?_of_block (w := W6) (a := ⟨w.heap.size + 1, 0, none⟩) (HI.out.kept _ (by show w.heap.size + 1 < _; omega) (by show w.heap.size + 1 ≠ _; omega) (by show w.heap.size + 1 ≠ _; omega))).trans HD1.out
        obtain ⟨q1, q2, q8, q10, q11, q13, q19, f11, f13, f19⟩ := hT7.cellP
        have HDEL : Hid (Calls Yba.prog 29 #[vJ, .func (.func 30) #[] #[.pointer (some ⟨w.heap.size + 1, 0, none⟩), .pointer (some ⟨w.heap.size, 0, none⟩)]] wr.drew fun e w4 =>
            ∃ q n c, e = .returned (.slice q n c) ∧ w4.cell? ⟨w.heap.size, 0, none⟩ = some (.pointer (some ⟨r.b, 0, none⟩)) ∧ w4.cell? ⟨r.b, 13, none⟩ = some vJ ∧ w4.frozen? ⟨r.b, 13, none⟩ = false ∧
              Hid (TabS (w4.setCell ⟨r.b, 13, none⟩ (.slice q n c)) r E P S D (IntKind.u64.wrap (wr0 + del)) (.slice q n c) (J.filter (fun j => !dies keep age j.2.2)) age ∧
                ((w4.setCell ⟨r.b, 13, none⟩ (.slice q n c)).os = W6.os ∧ (w4.setCell ⟨r.b, 13, none⟩ (.slice q n c)).tape = W6.tape ∧ (w4.setCell ⟨r.b, 13, none⟩ (.slice q n c)).output = W6.output) ∧ W6.heap.size ≤ (w4.setCell ⟨r.b, 13, none⟩ (.slice q n c)).heap.size ∧
                ∀ k, k < W6.heap.size → (k < r.lo ∨ r.hi ≤ k) → (w4.setCell ⟨r.b, 13, none⟩ (.slice q n c)).heap[k]? = W6.heap[k]?)) := by
          have hnb : ∀ k, vJ.ownBlock = some k → r.b < k ∧ k < r.hi := fun k hk => ⟨(hT7.row.lt k hk).1, hT7.rhi k hk⟩
          refine (deleteFunc_any (r.b + 1) (w.heap.size + 1) w.heap.size (fun j => dies keep age j.2.2) vJ J wr.drew hJ hT7.row (fun W' j hg => ?_)).mono ?_
          · have cell : ∀ {a : Addr} {v : Value}, wr.cell? a = some v → (a.block ≤ r.b ∨ r.hi ≤ a.block) → W'.cell? a = some v := fun {a v} hc ha =>
              (World.cell?_of_block (w := wr.drew) (a := a) (hg.block a.block (World.block_lt_of_cell? wr _ hc) (fun e => by have := hnb _ e.symm; omega))).trans hc
            exact exp1_any (w.heap.size + 1) w.heap.size r.b keep age j W' (cell g1 (Or.inr (by show r.hi ≤ w.heap.size + 1; omega))) (cell g0 (Or.inr (by show r.hi ≤ w.heap.size; omega))) (cell q19 (Or.inl (Nat.le_refl _)))
          · rintro e w4 ⟨vJ', rfl, hg, hown, hsub⟩
            have cell : ∀ {a : Addr} {v : Value}, wr.cell? a = some v → (a.block ≤ r.b ∨ r.hi ≤ a.block) → w4.cell? a = some v := fun {a v} hc ha =>
              (World.cell?_of_block (w := wr.drew) (a := a) (hg.block a.block (World.block_lt_of_cell? wr _ hc) (fun e => by have := hnb _ e.symm; omega))).trans hc
            have blk : ∀ k, k < wr.heap.size → (k ≤ r.b ∨ r.hi ≤ k) → w4.heap[k]? = wr.heap[k]? := fun k hk ha => hg.block k hk (fun e => by have := hnb _ e.symm; omega)
            obtain ⟨q, n, c, rfl⟩ : ∃ q n c, vJ' = .slice q n c := by
              rcases Joins.ownsRow_forms hown with ⟨h, _⟩ | ⟨g, cap, h⟩
              · exact ⟨none, 0, 0, h⟩
              · exact ⟨_, _, _, h⟩
            have hbw : r.b < wr.heap.size := by omega
            have hbb := blk r.b hbw (Or.inl (Nat.le_refl _))
            have hs4 : wr.heap.size ≤ w4.heap.size := hg.size
            have hs5 : (w4.setCell ⟨r.b, 13, none⟩ (.slice q n c)).heap.size = w4.heap.size := by simp
            have hk5 : ∀ k, k ≠ r.b → (w4.setCell ⟨r.b, 13, none⟩ (.slice q n c)).heap[k]? = w4.heap[k]? := fun k hk => Below.heap_setCell _ _ _ _ hk
            refine ⟨q, n, c, rfl, cell g0 (Or.inr (by show r.hi ≤ w.heap.size; omega)), cell q13 (Or.inl (Nat.le_refl _)), (World.frozen?_of_block (w := wr) (a := ⟨r.b, 13, none⟩) hbb).trans f13, ?_, ?_, ?_, ?_⟩
            · have hob : (w4.setCell ⟨r.b, 13, none⟩ (.slice q n c)).heap[r.b]? = some (TObj (.slice r.pp P.length r.cp) (.slice r.ps S.length r.cs) (.slice r.pe E.length r.ce) r.m (IntKind.u64.wrap (wr0 + del)) (.slice q n c) age) := by
                have ho := hbb.trans hT7.obj
                unfold TObj at ho ⊢
                rw [setCell_obj ho]
                rfl
              have hlow : ∀ k, k < r.b → (w4.setCell ⟨r.b, 13, none⟩ (.slice q n c)).heap[k]? = wr.heap[k]? := fun k hk => (hk5 k (by omega)).trans (blk k (by omega) (Or.inl (by omega)))
              refine ⟨hT7.mlo, hmb, hbh, by rw [hs5]; omega, hob, hT7.ecs.keep fun k _ hk => hlow k hk, hT7.pcs.keep fun k _ hk => hlow k hk, hT7.scs.keep fun k _ hk => hlow k hk, ?_, ?_, fun k hk => hT7.rhi k (hsub k hk)⟩
              · obtain ⟨es, ck, he, rest⟩ := hT7.map
                exact ⟨es, ck, (hlow _ hmb).trans he, rest⟩
              · exact ownsRow_setCell_other hown (fun e => by have := (hown.lt r.b e).1; omega) _
            · exact ⟨hg.os.trans HI.out.os, hg.tape.trans HI.out.tape, hg.output.trans HI.out.output⟩
            · rw [hs5]; omega
            · intro k hk ha
              have h1 : k ≠ r.b := by have := hT7.mlo; omega
              have h2 : k ≠ r.m := by have := hT7.mlo; omega
              rw [hk5 k h1]
              rcases ha with ha | ha
              · rw [blk k (by omega) (Or.inl (by have := hT7.mlo; omega))]; exact HI.out.kept k hk h2 h1
              · rw [blk k (by omega) (Or.inr ha)]; exact HI.out.kept k hk h2 h1
        have HMEM : Hid _ := hl0
        have hbw2 : r.b < wr.heap.size := by omega
        have hnw2 : w.heap.size < wr.heap.size := by omega
        clear hrg hl0 q1 q2 q8 q10 q11 f11 hT7 hmb hbh hhw
        go_upto_region 11 with fail
        go_cut [] from 51 to 66 (fun wx => ∃ vJ', TabS wx r E P S D (IntKind.u64.wrap (wr0 + del)) vJ' (J.filter (fun j => !dies keep age j.2.2)) age ∧ (wx.os = W6.os ∧ wx.tape = W6.tape ∧ wx.output = W6.output) ∧ W6.heap.size ≤ wx.heap.size ∧ ∀ k, k < W6.heap.size → (k < r.lo ∨ r.hi ≤ k) → wx.heap[k]? = W6.heap[k]?)
        case first =>
          refine wp_region_noPanic ?_
          go_region_with (go_at_call 29; refine HDEL.out.mono ?_; rintro e w4 ⟨q, n, c, rfl, y0, y13, yf, HX⟩)
          all_goals (refine NoPanic.normal ?_; go_wp2_with fail; go_meet; exact ⟨_, HX.out⟩)
        case rest =>
          obtain ⟨vJ', hT8, hos8, hs8, hk8⟩ := hcut
          obtain ⟨_, _, _, _, _, _, p19, _, _, pf⟩ := hT8.cellP
          have hb8 : r.b < wc.heap.size := by have := hT8.bhi; have := hT8.hi; omega
          have o0 : wc.cell? ⟨w.heap.size, 0, none⟩ = some (.pointer (some ⟨r.b, 0, none⟩)) := (World.cell?_of_block (w := W6) (a := ⟨w.heap.size, 0, none⟩) (hk8 _ (by show w.heap.size < _; omega) (Or.inr (by show r.hi ≤ w.heap.size; have := HT.out.hi; omega)))).trans HD0.out
          have HT8 : Hid _ := hT8
          have HO8 : Hid _ := hos8
          have HS8 : Hid _ := hs8
          have HK8 : Hid _ := hk8
          have hdl : wc.heap[D6]? = some (.deferred (some [])) := (hk8 D6 (Array.getElem?_eq_some_iff.1 HFIN.out).1 (Or.inr (by have := HT.out.hi; have := HD6.out; omega))).trans HFIN.out
          have HDL : Hid _ := hdl
          clear hT8 hos8 hs8 hk8 hdl HDEL g0 g1 q13 q19 f13 f19
          go_wp2_with fail
          have h6 := HD6.out
          have hhw := HT.out.hi
          have hmb := HT8.out.mb
          have hml := HT8.out.mlo
          have hbh := HT8.out.bhi
          have hne6 : D6 ≠ r.b := by omega
          have hsz : (wc.setCell ⟨r.b, 19, none⟩ (.int .u64 (IntKind.u64.wrap (age + 1)))).heap.size = wc.heap.size := by simp
          have hkc : ∀ k, k ≠ r.b → (wc.setCell ⟨r.b, 19, none⟩ (.int .u64 (IntKind.u64.wrap (age + 1)))).heap[k]? = wc.heap[k]? := fun k hk => Below.heap_setCell _ _ _ _ hk
          refine ⟨by simp, .inl ⟨_, _, rfl, run_takeDeferred ((hkc D6 hne6).trans HDL.out), ?_⟩⟩
          refine ⟨_, results_none rfl _ _ _, ⟨_, rfl⟩, ?_, D, del, vJ', ?_, HI.out.siz, fun kl => ?_⟩
          · refine ⟨HO8.out.1.trans HOS.out.1, HO8.out.2.1.trans HOS.out.2.1, HO8.out.2.2.trans HOS.out.2.2, ?_, fun k hk ha => ?_⟩
            · rw [World.putObj_size, hsz]; have := HS8.out; omega
            · rw [World.putObj_heap_other (by omega), hkc k (by omega), HK8.out k (by omega) ha]
              exact HSP.out k hk
          · have h1 : TabS (wc.setCell ⟨r.b, 19, none⟩ (.int .u64 (IntKind.u64.wrap (age + 1)))) r E P S D (IntKind.u64.wrap (wr0 + del)) vJ' (J.filter (fun j => !dies keep age j.2.2)) (IntKind.u64.wrap (age + 1)) := by
              refine HT8.out.setB hsz (fun k hk _ => hkc k hk) ?_ ?_ HT8.out.rhi
              · have ho := HT8.out.obj
                unfold TObj at ho ⊢
                rw [setCell_obj ho]
                rfl
              · exact ownsRow_setCell_other HT8.out.row (fun e => by have := (HT8.out.row.lt r.b e).1; omega) _
            exact h1.keep (by rw [World.putObj_size]; exact h1.hi) (fun k _ hk => World.putObj_heap_other (by omega))
          · rw [HI.out.hasD kl, HMEM.out kl, Bool.false_or]
      · intro x kl ya yb w1 cnt1 hkey hlk hR hat hrg1 hlt hg1 hs1 hen
        obtain ⟨x', hx1, hkl, hwf⟩ := keyOf_int_inv Yba.underlying22 hkey
        injection hx1 with hx2 hx3
        subst hx3
        have ux := u64_of_wf hwf
        have HS1 : Hid _ := hs1
        have HG1 : Hid _ := hg1
        have HRG1 : Hid (w1.ranges Yba.prog 22 hElem r.m W6.heap.size r.n D (fun z => left z && !z.sameKey kl) cnt1) := hrg1
        unfold hz at hen
        have HHAS : Hid (has D kl = true) := has_true_of_atKey hat
        have HKL : Hid (WideAt.IsKeyLit kl) := by rw [hkl]; exact trivial
        clear hs1 hg1 hrg1 hR hat
        go_upto_region 8 with fail
        have hs1 := HS1.out
        have hg1 := HG1.out
        have hrg1 := HRG1.out
        obtain ⟨W2, hW2⟩ : ∃ W2, w1.alloc (.cells #[.int .u64 0, .bool false, .bool false, .int .u64 0, .int .u64 0, .int .u64 0] 90) = W2 := ⟨_, rfl⟩
        rw [hW2]
        have hbW : Below w1.heap.size w1 W2 := by rw [← hW2]; exact al _
        have h5 : W2.cell? ⟨w1.heap.size, 5, none⟩ = some (.int .u64 0) := by rw [← hW2]; simp
        have hrg2 : W2.ranges Yba.prog 22 hElem r.m W6.heap.size r.n D (fun z => left z && !z.sameKey kl) cnt1 := by rw [← hW2]; exact World.ranges.alloc hrg1 _
        have hwx := HI.out.hsz
        have k2 : ∀ k, k < W6.heap.size → W2.heap[k]? = wr.heap[k]? := fun k hk => (hbW.block k (by omega)).trans (hg1.block k (by omega) (fun e => by injection e; omega))
        have k1 : ∀ k, k < W6.heap.size → k ≠ r.m → k ≠ r.b → W2.heap[k]? = W6.heap[k]? := fun k hk h1 h2 => (k2 k hk).trans (HI.out.kept k hk h1 h2)
        have t2 : TabS W2 r E P S D (IntKind.u64.wrap (wr0 + del)) vJ J age := HI.out.tab.keep (by have := hbW.size; omega) (fun k _ hk => k2 k (by omega))
        have hmb := t2.mb
        have hbh := t2.bhi
        have hhw := HT.out.hi
        have e0 : W2.cell? ⟨w.heap.size, 0, none⟩ = some (.pointer (some ⟨r.b, 0, none⟩)) := (World.cell?_of_block (w := W6) (a := ⟨w.heap.size, 0, none⟩) (k1 _ (by show w.heap.size < _; omega) (by show w.heap.size ≠ _; omega) (by show w.heap.size ≠ _; omega))).trans HD0.out
        have e1 : W2.cell? ⟨w.heap.size + 1, 0, none⟩ = some (.int .u64 keep) := (World.cell?_of_block (w := W6) (a := ⟨w.heap.size + 1, 0, none⟩) (k1 _ (by show w.heap.size + 1 < _; omega) (by show w.heap.size + 1 ≠ _; omega) (by show w.heap.size + 1 ≠ _; omega))).trans HD1.out
        have e3 : W2.cell? ⟨w.heap.size + 1 + 1 + 1, 0, none⟩ = some (.map (some (w.heap.size + 1 + 1))) := (World.cell?_of_block (w := W6) (a := ⟨w.heap.size + 1 + 1 + 1, 0, none⟩) (k1 _ (by show w.heap.size + 1 + 1 + 1 < _; omega) (by show w.heap.size + 1 + 1 + 1 ≠ _; omega) (by show w.heap.size + 1 + 1 + 1 ≠ _; omega))).trans HD3.out
        have hnm : NMap W2 (w.heap.size + 1 + 1) (knownL E S P).length (setN (knownL E S P)) := by
          obtain ⟨es, ck, he, rest⟩ := H2.out
          exact ⟨es, ck, (k1 _ (by omega) (by omega) (by omega)).trans he, rest⟩
        have hlook : ∀ n, (Instr.lookup 100 (.map (some (w.heap.size + 1 + 1))) (.int .u64 x) false).run Yba.prog (W2.drewN n) = .ok (.bool (decide (x ∈ knownL E S P))) (W2.drewN n) := fun n => named_look (w := W2.drewN n) hnm ux
        have HT2 : Hid _ := t2
        have HRG2 : Hid (W2.ranges Yba.prog 22 hElem r.m W6.heap.size r.n D (fun z => left z && !z.sameKey kl) cnt1) := hrg2
        obtain ⟨q1, q2, q8, q10, q11, q13, q19, f11, f13, f19⟩ := t2.cellP
        have hk0 : IntKind.u64.wrap keep = keep := wrap_u64 uK
        generalize hnb : decide (x ∈ knownL E S P) = nb at hlook
        have HNB : Hid _ := hnb
        have HK1 : Hid _ := k1
        have HBW : Hid _ := hbW
        clear hnb hnm k1 k2 t2 hrg2 hg1 hrg1 hbW hwx hmb hbh hhw hs1 hW2 hen
        have hos2 : W2.os = W6.os ∧ W2.tape = W6.tape ∧ W2.output = W6.output := ⟨HBW.out.os.trans (HG1.out.os.trans HI.out.os), HBW.out.tape.trans (HG1.out.tape.trans HI.out.tape), HBW.out.output.trans (HG1.out.output.trans HI.out.output)⟩
        have HOS2 : Hid _ := hos2
        have HSZ2 : Hid (W6.heap.size < W2.heap.size) := by have h1 := HI.out.hsz; have h2 := HS1.out; have h3 := HBW.out.size; show _ < _; omega
        clear hos2
        by_cases hd : keep ≤ age
        · have hd' : decide (keep ≤ age) = true := by simpa using hd
          cases nb with
          | true =>
            go_quiet (fail)
            go_wp2_with fail
            go_roundw
            case rel =>
              refine ⟨_, _, _, _, HI.out.stay HKL.out ?_ HRG2.out (HT2.out.keep HT2.out.hi (fun _ _ _ => rfl)) HOS2.out HSZ2.out HK1.out⟩
              rw [hkl, any_lit, HNB.out]; rfl
            case measure =>
              have h1 := HRG2.out.left_eq
              have h2 := HI.out.rng.left_eq
              rw [h2]
              show W2.rangeLeft r.m W6.heap.size < cnt
              omega
          | false =>
            go_quiet (fail)
            have hrgq : (W2.drewN nq).ranges Yba.prog 22 hElem r.m W6.heap.size r.n D (fun z => left z && !z.sameKey kl) cnt1 := HRG2.out
            have hTq : TabS (W2.drewN nq) r E P S D (IntKind.u64.wrap (wr0 + del)) vJ J age := HT2.out.keep HT2.out.hi (fun _ _ _ => rfl)
            have HTQ : Hid _ := hTq
            have hbm : r.b ≠ r.m := by have := hTq.mb; omega
            have hnm : w.heap.size ≠ r.m := by have := HT.out.mb; have := HT.out.bhi; have := HT.out.hi; omega
            have HQ3 : Hid (∀ w3 cnt3, w3.ranges Yba.prog 22 hElem r.m W6.heap.size r.n (D.del kl) (fun z => (left z && !z.sameKey kl) && !z.sameKey kl) cnt3 → (W2.drewN nq).mapTurned w3 r.m → w3.cell? ⟨w.heap.size, 0, none⟩ = some (.pointer (some ⟨r.b, 0, none⟩)) ∧ w3.cell? ⟨r.b, 11, none⟩ = some (.int .u64 (IntKind.u64.wrap (wr0 + del))) ∧ w3.frozen? ⟨r.b, 11, none⟩ = false ∧
                Hid (ExInv W6 r E P S D0 wr0 vJ J age (fun kl => ((knownL E S P).map (Lit.int .u64)).any (fun y => y.sameKey kl) || !dies keep age 0) (w3.setCell ⟨r.b, 11, none⟩ (.int .u64 (IntKind.u64.wrap (IntKind.u64.wrap (wr0 + del) + 1)))) (fun z => left z && !z.sameKey kl) cnt3 (D.del kl) (del + 1))) := by
              intro w3 cnt3 hrg3 hturn
              have hg := hturn.grown
              have hstd : dies keep age 0 = true := by unfold dies; rw [Int.zero_add, hk0]; exact hd'
              obtain ⟨_, _, _, _, p11, _, _, pf, _, _⟩ := HTQ.out.cellP
              have hbw : r.b < (W2.drewN nq).heap.size := by have := HTQ.out.bhi; have := HTQ.out.hi; omega
              have hbb := hg.block r.b hbw (fun e => hbm (by injection e))
              refine ⟨grow_cell hg (show (W2.drewN nq).cell? ⟨w.heap.size, 0, none⟩ = _ from e0) hnm, grow_cell hg p11 hbm, (World.frozen?_of_block (w := W2.drewN nq) (a := ⟨r.b, 11, none⟩) hbb).trans pf, ?_⟩
              rw [strike_twice] at hrg3
              rw [wrap_step]
              have hT3 : TabS w3 r E P S (D.del kl) (IntKind.u64.wrap (wr0 + del)) vJ J age := HTQ.out.setMap (n := r.n) hg hrg3.owns
              have hs3 : (w3.setCell ⟨r.b, 11, none⟩ (.int .u64 (IntKind.u64.wrap (wr0 + (del + 1 : Nat))))).heap.size = w3.heap.size := by simp
              have hk3 : ∀ k, k ≠ r.b → (w3.setCell ⟨r.b, 11, none⟩ (.int .u64 (IntKind.u64.wrap (wr0 + (del + 1 : Nat))))).heap[k]? = w3.heap[k]? := fun k hk => Below.heap_setCell _ _ _ _ hk
              have hs23 : W2.heap.size ≤ w3.heap.size := hg.size
              have hsz2 := HSZ2.out
              refine HI.out.drop HKL.out ?_ HHAS.out ?_ ?_ ⟨hg.os.trans HOS2.out.1, hg.tape.trans HOS2.out.2.1, hg.output.trans HOS2.out.2.2⟩ (by rw [hs3]; omega) (fun k hk h1 h2 => ?_)
              · rw [hkl, any_lit, HNB.out, hstd]; rfl
              · refine hrg3.kept (row := some r.b) ⟨rfl, rfl, rfl, by rw [hs3]; exact Nat.le_refl _, fun k _ hne => hk3 k (fun e => hne (by rw [e]))⟩ (fun e => hbm (by injection e with e; exact e.symm)) (fun e => ?_)
                injection e with e
                have := HTQ.out.bhi
                omega
              · refine hT3.setB hs3 (fun k hk _ => hk3 k hk) ?_ ?_ hT3.rhi
                · have ho := hT3.obj
                  unfold TObj at ho ⊢
                  rw [setCell_obj ho]
                  rfl
                · exact ownsRow_setCell_other hT3.row (fun e => by have := (hT3.row.lt r.b e).1; omega) _
              · have hkw : k < (W2.drewN nq).heap.size := by show k < W2.heap.size; omega
                rw [hk3 k h2, hg.block k hkw (fun e => h1 (by injection e))]
                exact HK1.out k hk h1 h2
            clear hTq
            go_wp2_with (first | (at_delete; refine wpList_delete_ranges _ rfl _ _ 80 22 rfl 90 law22 Yba.underlying80 _ r.m W6.heap.size r.n D _ _ rfl hrgq _ _ rfl hkey ?_; intro w3 cnt3 hrg3 hle hturn; obtain ⟨y0, y11, yf, HX⟩ := HQ3.out w3 cnt3 hrg3 hturn; have HRG3 : Hid (cnt3 ≤ cnt1) := hle; clear hrg3 hturn hle))
            go_roundw
            case rel => exact ⟨_, _, _, _, HX.out⟩
            case measure =>
              have h1 := HX.out.rng.left_eq
              have h2 := HI.out.rng.left_eq
              have h3 := HRG3.out
              rw [h2]
              omega
        · have hd' : decide (keep ≤ age) = false := by simpa using hd
          clear hlook
          go_quiet (fail)
          go_wp2_with fail
          go_roundw
          case rel =>
            refine ⟨_, _, _, _, HI.out.stay HKL.out ?_ HRG2.out (HT2.out.keep HT2.out.hi (fun _ _ _ => rfl)) HOS2.out HSZ2.out HK1.out⟩
            have : dies keep age 0 = false := by unfold dies; rw [Int.zero_add, hk0]; exact hd'
            rw [this]; simp
          case measure =>
            have h1 := HRG2.out.left_eq
            have h2 := HI.out.rng.left_eq
            rw [h2]
            show W2.rangeLeft r.m W6.heap.size < cnt
            omega
end Go.Proofs.Ybulkclso
