import Derived.Test.YbulkclsoChk
namespace Go.Proofs.Ybulkclso
open Go.RowKit Go.Maps

/-- A table as build leaves it. -/
def TabB (w : World) (r : Rec) (z : Zt) : Prop := ∃ vJ, TabS w r z.E z.P z.S (setOf (.lit (.bool true)) (z.H.map (Lit.int .u64))) z.wr vJ z.J z.age

/-- A table as Expire leaves it. -/
def TabA (w : World) (r : Rec) (z : Zt) (keep : Int) : Prop := ∃ (D' : DataW Unit) (del : Nat) (vJ : Value),
  TabS w r z.E z.P z.S D' (IntKind.u64.wrap (z.wr + del)) vJ (z.J.filter (fun j => !dies keep z.age j.2.2)) (IntKind.u64.wrap (z.age + 1)) ∧
  size D' + ((firsts z.H z.H.length).filter (fun x => !stayB z.E z.S z.P keep z.age x)).length = (firsts z.H z.H.length).length ∧ del = ((firsts z.H z.H.length).filter (fun x => !stayB z.E z.S z.P keep z.age x)).length ∧
  ∀ x, x ∈ z.H → has D' (.int .u64 x) = stayB z.E z.S z.P keep z.age x

/-- The bounds that the law's first loop lays. -/
structure Small (z : Zt) : Prop where
  el : z.E.length ≤ 1024
  pl : z.P.length ≤ 1024
  sl : z.S.length ≤ 1024
  hl : z.H.length ≤ 1024
  jl : z.J.length ≤ 1024

structure Nums (z : Zt) : Prop where
  eu : ∀ x ∈ z.E, U64 x
  pu : ∀ x ∈ z.P, U64 x
  su : ∀ x ∈ z.S, U64 x
  hu : ∀ x ∈ z.H, U64 x
  wu : U64 z.wr

theorem expire_tab (r : Rec) (z : Zt) (keep : Int) (w : World) (hT : TabB w r z) (hs : Small z) (hn : Nums z) (uK : U64 keep) :
    Calls Yba.prog 23 #[.pointer (some ⟨r.b, 0, none⟩), .int .u64 keep] w fun e w' => (∃ v, e = .returned v) ∧ Span r.lo r.hi w w' ∧ TabA w' r z keep := by
  obtain ⟨vJ, hT⟩ := hT
  refine (expire_any r z.E z.P z.S _ z.wr vJ z.J z.age keep w hT hs.el hs.pl hs.sl hs.jl hn.eu hn.pu hn.su uK hn.wu).mono ?_
  rintro e w' ⟨he, hsp, D', del, vJ', hT', hsz, hh⟩
  obtain ⟨h1, h2⟩ := counts (hT.map.canon law22) (hT'.map.canon law22) hsz hh
  refine ⟨he, hsp, D', del, vJ', hT', h1, h2, fun x hx => ?_⟩
  rw [hh, any_lit, (has_setH z.H (.int .u64 x)).2 (List.mem_map.2 ⟨x, hx, rfl⟩), Bool.true_and]
  rfl

theorem TabB.keep {w w' : World} {r : Rec} {z : Zt} (h : TabB w r z) (hs : r.hi ≤ w'.heap.size) (hk : ∀ k, r.lo ≤ k → k < r.hi → w'.heap[k]? = w.heap[k]?) : TabB w' r z := by
  obtain ⟨vJ, h⟩ := h
  exact ⟨vJ, h.keep hs hk⟩
theorem TabA.keep {w w' : World} {r : Rec} {z : Zt} {keep : Int} (h : TabA w r z keep) (hs : r.hi ≤ w'.heap.size) (hk : ∀ k, r.lo ≤ k → k < r.hi → w'.heap[k]? = w.heap[k]?) : TabA w' r z keep := by
  obtain ⟨D', del, vJ, h, rest⟩ := h
  exact ⟨D', del, vJ, h.keep hs hk, rest⟩
theorem TabB.hi {w : World} {r : Rec} {z : Zt} (h : TabB w r z) : r.hi ≤ w.heap.size ∧ r.lo ≤ r.b ∧ r.b < r.hi := by
  obtain ⟨vJ, h⟩ := h
  exact ⟨h.hi, by have := h.mlo; have := h.mb; omega, h.bhi⟩

abbrev r0 : Rec := ⟨0, 0, 0, 0, 0, none, 0, none, 0, none, 0⟩
abbrev z0 : Zt := ⟨[], [], [], [], [], 0, 0⟩

/-- The tables' spans, one behind another. -/
def Apart (rs : List Rec) : Prop := ∀ i j, i < j → j < rs.length → (rs.getD i r0).hi ≤ (rs.getD j r0).lo

/-- Nothing outside the tables has turned. -/
structure Out (rs : List Rec) (n : Nat) (w w' : World) : Prop where
  os : w'.os = w.os
  tape : w'.tape = w.tape
  output : w'.output = w.output
  size : w.heap.size ≤ w'.heap.size
  block : ∀ m, m < w.heap.size → (∀ i, i < n → m < (rs.getD i r0).lo ∨ (rs.getD i r0).hi ≤ m) → w'.heap[m]? = w.heap[m]?

theorem Out.refl (rs : List Rec) (n : Nat) (w : World) : Out rs n w w := ⟨rfl, rfl, rfl, Nat.le_refl _, fun _ _ _ => rfl⟩

/-- The tables: the first k behind Expire, the others ahead of it. -/
structure Tabs (rs : List Rec) (zs : List Zt) (keep : Int) (k : Nat) (w : World) : Prop where
  ta : ∀ i, i < k → TabA w (rs.getD i r0) (zs.getD i z0) keep
  tb : ∀ i, k ≤ i → i < zs.length → TabB w (rs.getD i r0) (zs.getD i z0)

theorem TabA.hi {w : World} {r : Rec} {z : Zt} {keep : Int} (h : TabA w r z keep) : r.hi ≤ w.heap.size ∧ r.lo ≤ r.b ∧ r.b < r.hi := by
  obtain ⟨D', del, vJ, h, _⟩ := h
  exact ⟨h.hi, by have := h.mlo; have := h.mb; omega, h.bhi⟩

theorem Tabs.step {rs : List Rec} {zs : List Zt} {keep : Int} {k : Nat} {w w' : World} (h : Tabs rs zs keep k w) (hl : rs.length = zs.length) (hap : Apart rs) (hk : k < zs.length)
    (hs : Span (rs.getD k r0).lo (rs.getD k r0).hi w w') (hA : TabA w' (rs.getD k r0) (zs.getD k z0) keep) : Tabs rs zs keep (k + 1) w' := by
  refine ⟨fun i hi => ?_, fun i hi hn => ?_⟩
  · rcases Nat.lt_succ_iff_lt_or_eq.1 hi with h1 | rfl
    · have ha := h.ta i h1
      have := hap i k h1 (by omega)
      exact ha.keep (Nat.le_trans ha.hi.1 hs.size) (fun m _ h3 => hs.block m (by have := ha.hi.1; omega) (Or.inl (by omega)))
    · exact hA
  · have hb := h.tb i (by omega) hn
    have := hap k i (by omega) (by omega)
    exact hb.keep (Nat.le_trans hb.hi.1 hs.size) (fun m h2 h3 => hs.block m (by have := hb.hi.1; omega) (Or.inr (by omega)))

theorem Out.step {rs : List Rec} {n : Nat} {w w' w'' : World} (h : Out rs n w w') {k : Nat} (hk : k < n) (hs : Span (rs.getD k r0).lo (rs.getD k r0).hi w' w'') : Out rs n w w'' :=
  ⟨hs.os.trans h.os, hs.tape.trans h.tape, hs.output.trans h.output, Nat.le_trans h.size hs.size, fun m hm ho => (hs.block m (Nat.lt_of_lt_of_le hm h.size) (ho k hk)).trans (h.block m hm ho)⟩

set_option maxHeartbeats 4000000 in
theorem nodeExp_any (nb tb : Nat) (cap : Nat) (rs : List Rec) (zs : List Zt) (keep : Int) (w : World) (hl : rs.length = zs.length) (hlen : zs.length ≤ 256) (uK : U64 keep) (hap : Apart rs)
    (hT : Tabs rs zs keep 0 w) (hS : ∀ i, i < zs.length → Small (zs.getD i z0) ∧ Nums (zs.getD i z0))
    (hts : ∀ i, i < zs.length → tb < (rs.getD i r0).lo ∧ w.cell? ⟨tb, i, none⟩ = some (.pointer (some ⟨(rs.getD i r0).b, 0, none⟩)))
    (hoff : w.cell? ⟨nb, 6, none⟩ = some (.slice (some ⟨tb, 0, none⟩) zs.length cap)) :
    Calls Yba.prog 11 #[.pointer (some ⟨nb, 0, none⟩), .int .u64 keep] w fun e w' => (∃ v, e = .returned v) ∧ Tabs rs zs keep zs.length w' ∧ Out rs zs.length w w' := by
  have hlI : (zs.length : Int) ≤ 256 := by omega
  have HS : Hid _ := hS
  have HAP : Hid (Apart rs) := hap
  have HTS : Hid _ := hts
  clear hS hap hts
  go_enter Yba.func11, Yba.ntmps11
  go_wp2_with fail
  go_loopw [11] (fun si wx => ∃ k : Nat, k ≤ zs.length ∧ si = .int .i64 k ∧ Tabs rs zs keep k wx ∧ Out rs zs.length w wx) (fun si _ => (zs.length - intOf si).toNat)
  case atStart => exact ⟨0, by omega, rfl, hT, Out.refl _ _ _⟩
  case round =>
    clear hT
    obtain ⟨k, hk, rfl, hTk, hO⟩ := hrel
    have HTK : Hid _ := hTk
    have HO : Hid _ := hO
    by_cases hlt : k < zs.length
    · obtain ⟨h1, h2⟩ := HTS.out k hlt
      have hc : wr.cell? ⟨tb, k, none⟩ = some (.pointer (some ⟨(rs.getD k r0).b, 0, none⟩)) :=
        (World.cell?_of_block (w := w) (a := ⟨tb, k, none⟩) (hO.block tb (World.block_lt_of_cell? _ _ h2) (fun i hi => Or.inl (HTS.out i hi).1))).trans h2
      have HE := expire_tab (rs.getD k r0) (zs.getD k z0) keep wr (hTk.tb k (Nat.le_refl _) hlt) (HS.out k hlt).1 (HS.out k hlt).2 uK
      have HST : Hid (∀ w', Span (rs.getD k r0).lo (rs.getD k r0).hi wr w' → TabA w' (rs.getD k r0) (zs.getD k z0) keep → Tabs rs zs keep (k + 1) w' ∧ Out rs zs.length w w') := fun w' hs hA => ⟨hTk.step hl HAP.out hlt hs hA, hO.step hlt hs⟩
      clear hTk hO h1 h2
      generalize hrr : rs.getD k r0 = rr at *
      go_wp2_with (go_at_call 23; refine HE.mono ?_; rintro e w' ⟨⟨ve, rfl⟩, hs, hA⟩)
      go_roundw
      case rel => exact ⟨k + 1, by omega, by go_num, HST.out _ hs hA⟩
      case measure => simp [intOf]; omega
    · obtain rfl : k = zs.length := by omega
      clear hTk hO
      go_wp2_with fail
      go_end0
      exact ⟨⟨_, rfl⟩, HTK.out, HO.out⟩
end Go.Proofs.Ybulkclso
