import Derived.Test.YbulkclsoIter
namespace Go.Proofs.Ybulkclso
open Go.RowKit Go.Shelf
attribute [local go_sem] Oper.semAt_some

/-- What known$1 reads. -/
structure RdK (bx b : Nat) (pe : Option Addr) (ce : Nat) (E : List Int) (ps : Option Addr) (cs : Nat) (S : List Int) (pp : Option Addr) (cp : Nat) (P : List Int) (W : World) : Prop where
  box : W.cell? ⟨bx, 0, none⟩ = some (.pointer (some ⟨b, 0, none⟩))
  ent : W.cell? ⟨b, 8, none⟩ = some (.slice pe E.length ce)
  suc : W.cell? ⟨b, 2, none⟩ = some (.slice ps S.length cs)
  pre : W.cell? ⟨b, 1, none⟩ = some (.slice pp P.length cp)
  ecs : Cs W pe E
  scs : Cs W ps S
  pcs : Cs W pp P

def knownL (E S P : List Int) : List Int := (upS E S S.length).map (·.1) ++ P
def upK (E S P : List Int) (k : Nat) : List Int := (upS E S S.length).map (·.1) ++ (List.range k).map (fun j => P.getD j 0)
theorem upK_succ (E S P : List Int) (k : Nat) : upK E S P (k + 1) = upK E S P k ++ [P.getD k 0] := by simp [upK, List.range_succ]
theorem range_getD (P : List Int) : (List.range P.length).map (fun j => P.getD j 0) = P := by
  apply List.ext_getElem
  · simp
  · intro i h1 h2
    simp [h2]
theorem upK_all (E S P : List Int) : upK E S P P.length = knownL E S P := by rw [upK, range_getD, knownL]
theorem upK_pre {E S P : List Int} {k : Nat} (h : k ≤ P.length) : upK E S P k <+: knownL E S P := by
  rw [← upK_all]
  obtain ⟨t, ht⟩ := range_prefix h
  exact ⟨t.map (fun j => P.getD j 0), by rw [upK, upK, ← ht, List.map_append, List.append_assoc]⟩

set_option maxHeartbeats 1000000 in
theorem ahead_any (p : Option Addr) (w : World) :
    CallsIn Fence.wide 0 Yba.prog 32 #[.pointer p] w fun e w' => e = .returned (.func (.func 34) #[] #[.pointer (some ⟨w.heap.size, 0, none⟩)]) ∧ w' = w.alloc (.cells #[.pointer p] 54) := by
  refine callsIn_of_wp Yba.func32 rfl trivial ?_ rfl
  simp only [Yba.ntmps32, List.size_toArray, List.length_cons, List.length_nil, Nat.reduceAdd, Nat.reduceSub, Array.replicate_succ, Array.replicate_zero, List.push_toArray, List.append_toArray, List.nil_append, List.cons_append]
  gi_wp2
  go_ret
  exact ⟨rfl, rfl⟩

set_option maxHeartbeats 1000000 in
theorem known_any (p : Option Addr) (w : World) :
    CallsIn Fence.wide 0 Yba.prog 28 #[.pointer p] w fun e w' => e = .returned (.func (.func 31) #[] #[.pointer (some ⟨w.heap.size, 0, none⟩)]) ∧ w' = w.alloc (.cells #[.pointer p] 54) := by
  refine callsIn_of_wp Yba.func28 rfl trivial ?_ rfl
  simp only [Yba.ntmps28, List.size_toArray, List.length_cons, List.length_nil, Nat.reduceAdd, Nat.reduceSub, Array.replicate_succ, Array.replicate_zero, List.push_toArray, List.append_toArray, List.nil_append, List.cons_append]
  gi_wp2
  go_ret
  exact ⟨rfl, rfl⟩

theorem Cs.keep {w w' : World} {p : Option Addr} {xs : List Int} (h : Cs w p xs) (hb : Below w.heap.size w w') : Cs w' p xs := fun j hj => by
  obtain ⟨b, o, e, hc⟩ := h j hj
  exact ⟨b, o, e, (hb.cell (World.block_lt_of_cell? w _ hc)).trans hc⟩

set_option maxRecDepth 100000 in
set_option maxHeartbeats 4000000 in
theorem known1_any (bx b : Nat) (pe : Option Addr) (ce : Nat) (E : List Int) (ps : Option Addr) (cs : Nat) (S : List Int) (pp : Option Addr) (cp : Nat) (P : List Int) (hE : E.length ≤ 1024) (hS : S.length ≤ 1024) (hP : P.length ≤ 1024) :
    SeqAll Yba.prog 31 #[.pointer (some ⟨bx, 0, none⟩)] (fun x : Int => #[.int .u64 x]) (knownL E S P) (RdK bx b pe ce E ps cs S pp cp P) := by
  intro l J W hJ hRd hY h0
  have hP' : (P.length : Int) ≤ 1024 := by omega
  have hfn : ∀ f, Fence.wide.fn f := fun _ => trivial
  have hdp : Fence.wide.depth = none := rfl
  obtain ⟨r0, r1, r2, r3, _, _, _⟩ := hRd _ _ h0
  have hbx : bx < W.heap.size := World.block_lt_of_cell? _ _ r0
  have hbb : b < W.heap.size := World.block_lt_of_cell? _ _ r1
  obtain ⟨W2, hW2⟩ : ∃ W2, (W.alloc (.cells #[.func (.yield l) #[] #[]] 106)).alloc (.cells #[.pointer (some ⟨b, 0, none⟩)] 54) = W2 := ⟨_, rfl⟩
  have hs2 : W2.heap.size = W.heap.size + 2 := by rw [← hW2]; simp
  have hb2 : Below W.heap.size W W2 := by rw [← hW2]; exact ((Below.refl _ _).alloc (Nat.le_refl _) _).alloc (by simp) _
  have c0 : W2.cell? ⟨W.heap.size, 0, none⟩ = some (.func (.yield l) #[] #[]) := by
    rw [← hW2, World.cell?_alloc_past _ _ _ (by simp)]; simp
  have c1 : W2.cell? ⟨W.heap.size + 1, 0, none⟩ = some (.pointer (some ⟨b, 0, none⟩)) := by
    have e : W.heap.size + 1 = (W.alloc (.cells #[.func (.yield l) #[] #[]] 106)).heap.size := by simp
    rw [← hW2, e]; simp
  refine callsIn_of_wp_marks Yba.func31 rfl trivial ?_ rfl
  simp only [Yba.ntmps31, List.size_toArray, List.length_cons, List.length_nil, Nat.reduceAdd, Nat.reduceSub, Array.replicate_succ, Array.replicate_zero, List.push_toArray, List.append_toArray, List.nil_append, List.cons_append]
  gi_wp2_with (gi_at_call 32; refine (ahead_any _ _).mono ?_; rintro e w' ⟨rfl, rfl⟩)
  refine wpIn_rangeAll (gf := 34) (lb := #[.pointer (some ⟨W.heap.size + 1, 0, none⟩)]) rfl (enters_of Yba.func34 (by kernel_rfl) rfl) (ahead1_any (W.heap.size + 1) b pe ce E ps cs S hE hS) (fun _ => rfl)
    (fun pre A => J (pre.map (·.1)) A ∧ W.heap.size + 2 ≤ A.heap.size ∧ A.cell? ⟨W.heap.size, 0, none⟩ = some (.func (.yield l) #[] #[]) ∧ A.cell? ⟨W.heap.size + 1, 0, none⟩ = some (.pointer (some ⟨b, 0, none⟩)))
    ?hI ?hR ⟨hJ _ _ _ h0 hb2, by omega, c0, c1⟩
    (fun x => { tmps := #[.func (.yield l) #[] #[], .pointer (some ⟨bx, 0, none⟩), .pointer (some ⟨W.heap.size, 0, none⟩), .int .u64 x.1, undef, undef, .pointer (some ⟨b, 0, none⟩), .func (.func 34) #[] #[.pointer (some ⟨W.heap.size + 1, 0, none⟩)], .int .u64 x.1, .int .i64 x.2, undef, undef, undef, undef, undef, undef, undef, undef, undef, undef, undef, undef, undef, undef, undef, undef, undef, undef], defers := [] })
    ?assign ?body ?done
  case hI =>
    rintro s A A' ⟨h1, h2, h3, h4⟩ hb
    rw [hs2] at hb
    exact ⟨hJ _ _ _ h1 (hb.mono (by omega)), Nat.le_trans h2 hb.size, (hb.cell (p := ⟨W.heap.size, 0, none⟩) (by simp)).trans h3, (hb.cell (p := ⟨W.heap.size + 1, 0, none⟩) (by simp)).trans h4⟩
  case hR =>
    rintro s A ⟨h1, h2, h3, h4⟩
    have g := hRd _ _ h1
    exact ⟨h4, g.ent, g.suc, g.ecs, g.scs⟩
  case assign =>
    intro l' x A K hK
    gi_wp2
    exact hK
  case body =>
    rintro l' pre x A hl1 hl2 ⟨h1, h2, h3, h4⟩ hpre
    obtain ⟨fn, tmps, assign, body, hy, hR⟩ := hY _ x.1 A h1 (by
      obtain ⟨t, ht⟩ := hpre
      refine ⟨t.map (·.1) ++ P, ?_⟩
      rw [knownL, ← ht]
      simp) (by omega)
    gi_wp2
    refine RoundIn.mono (F := Fence.wide) hR ?_
    rintro e A3 ⟨rfl, hJ3, hup⟩
    gi_wp2
    refine ⟨⟨by simpa using hJ3, Nat.le_trans h2 hup.size, ?_, ?_⟩, hup.size, fun k hk hlt => hup.same k (by omega) hlt⟩
    · exact (World.cell?_of_block (w := A) (a := ⟨W.heap.size, 0, none⟩) (hup.same _ (Nat.le_refl _) (by simp; omega))).trans h3
    · exact (World.cell?_of_block (w := A) (a := ⟨W.heap.size + 1, 0, none⟩) (hup.same _ (by simp) (by simp; omega))).trans h4
  case done =>
    rintro D A hD ⟨h1, h2, h3, h4⟩ hK
    obtain ⟨q0, q1, q2, q3, _, _, _⟩ := hRd _ _ h1
    have hJ0 : J (upK E S P 0) A := by simpa [upK] using h1
    clear h1 c0 c1 r0 r1 r2 r3
    gi_wp2
    gi_loopw [19] (fun sk wr => ∃ k : Nat, k ≤ P.length ∧ sk = .int .i64 k ∧ J (upK E S P k) wr ∧ W.heap.size + 2 ≤ wr.heap.size ∧ wr.cell? ⟨W.heap.size, 0, none⟩ = some (.func (.yield l) #[] #[]) ∧ wr.heap[D]? = some (.deferred (some [])))
        (fun sk _ => P.length - (intOf sk).toNat)
    case atStart => exact ⟨0, Nat.zero_le _, rfl, hJ0, h2, h3, hK⟩
    case round =>
      obtain ⟨k, hk, rfl, hJs, hsz, hcy, hKd⟩ := hrel
      obtain ⟨_, _, _, _, _, _, q6⟩ := hRd _ _ hJs
      by_cases hlt2 : k < P.length
      · obtain ⟨sb, so, rfl, hc⟩ := q6 k hlt2
        have hY2 := hY _ (P.getD k 0) wr hJs (by rw [← upK_succ]; exact upK_pre (by omega)) (by omega)
        rw [← upK_succ] at hY2
        generalize P.getD k 0 = z at *
        obtain ⟨fn, tmps, assign, body, hy, hR⟩ := hY2
        clear q6
        gi_wp2
        refine hR.mono ?_
        rintro e A3 ⟨rfl, hJ3, hup⟩
        gi_wp2
        go_roundw
        case rel =>
          refine ⟨k + 1, by omega, by go_num, hJ3, Nat.le_trans hsz hup.size, ?_, ?_⟩
          · exact (World.cell?_of_block (w := wr) (a := ⟨W.heap.size, 0, none⟩) (hup.same _ (Nat.le_refl _) (by simp; omega))).trans hcy
          · exact (hup.same D (by omega) (Array.getElem?_eq_some_iff.1 hKd).1).trans hKd
        case measure => simp [intOf]; omega
      · obtain rfl : k = P.length := by omega
        clear q6
        gi_wp2
        rw [upK_all] at hJs
        refine ⟨by simp, .inl ⟨_, _, rfl, run_takeDeferred hKd, ?_⟩⟩
        exact ⟨_, results_none rfl _ _ _, ⟨_, rfl⟩, hJ _ _ _ hJs (below_putObj (by omega) _)⟩
end Go.Proofs.Ybulkclso
