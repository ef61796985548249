/-
  The argument of LawS4382BExpireAll, opened: a slice of structs of seven cells each (four rows of uint64, a row of joiners of three cells, two numbers).
-/
import Derived.Test.YbulkclsoTab
import Derived.Deep.Slices
import Derived.Deep.Fields
import Derived.OpenShut
namespace Go.Proofs.Ybulkclso
open Go.ChangeShapes Go.WideShapes Go.RowKit Go.Maps

structure ZRaw (w : World) (v : Zv) (z : Zt) : Prop where
  ecs : Cs w v.pe z.E
  pcs : Cs w v.pp z.P
  scs : Cs w v.ps z.S
  hcs : Cs w v.ph z.H
  jcs : JCs w v.pj z.J
  en : v.pe = none → z.E = [] ∧ v.ce = 0
  pn : v.pp = none → z.P = [] ∧ v.cp = 0
  sn : v.ps = none → z.S = [] ∧ v.cs = 0
  eu : ∀ x ∈ z.E, U64 x
  pu : ∀ x ∈ z.P, U64 x
  su : ∀ x ∈ z.S, U64 x
  hu : ∀ x ∈ z.H, U64 x
  ju : ∀ j ∈ z.J, U64 j.1 ∧ U64 j.2.1 ∧ U64 j.2.2
  au : U64 z.age
  wu : U64 z.wr

/-- Element i of the argument's row: the seven cells of one ZzS4382BTable. -/
structure ZAt (w : World) (b o : Nat) (v : Zv) (z : Zt) : Prop where
  c0 : w.cell? ⟨b, o, none⟩ = some (.slice v.pe z.E.length v.ce)
  c1 : w.cell? ⟨b, o + 1, none⟩ = some (.slice v.pp z.P.length v.cp)
  c2 : w.cell? ⟨b, o + 2, none⟩ = some (.slice v.ps z.S.length v.cs)
  c3 : w.cell? ⟨b, o + 3, none⟩ = some (.slice v.ph z.H.length v.ch)
  c4 : w.cell? ⟨b, o + 4, none⟩ = some (.slice v.pj z.J.length v.cj)
  c5 : w.cell? ⟨b, o + 5, none⟩ = some (.int .u64 z.age)
  c6 : w.cell? ⟨b, o + 6, none⟩ = some (.int .u64 z.wr)

theorem ZAt.keep {w w' : World} {b o : Nat} {v : Zv} {z : Zt} (h : ZAt w b o v z) (hb : Below w.heap.size w w') : ZAt w' b o v z :=
  ⟨(hb.cell (World.block_lt_of_cell? _ _ h.c0)).trans h.c0, (hb.cell (World.block_lt_of_cell? _ _ h.c1)).trans h.c1, (hb.cell (World.block_lt_of_cell? _ _ h.c2)).trans h.c2, (hb.cell (World.block_lt_of_cell? _ _ h.c3)).trans h.c3, (hb.cell (World.block_lt_of_cell? _ _ h.c4)).trans h.c4, (hb.cell (World.block_lt_of_cell? _ _ h.c5)).trans h.c5, (hb.cell (World.block_lt_of_cell? _ _ h.c6)).trans h.c6⟩

abbrev v0 : Zv := ⟨none, 0, none, 0, none, 0, none, 0, none, 0⟩

theorem Yba.cells52 : Yba.prog.cellsOf 52 = 7 := by kernel_rfl
theorem Yba.cells92 : Yba.prog.cellsOf 92 = 3 := by kernel_rfl
theorem Yba.cells22 : Yba.prog.cellsOf 22 = 1 := by kernel_rfl
theorem Yba.cells49 : Yba.prog.cellsOf 49 = 1 := by kernel_rfl
theorem Yba.cells50 : Yba.prog.cellsOf 50 = 1 := by kernel_rfl

theorem wf_to_u64 {x : Int} (h : (Lit.int .u64 x).wf = true) : U64 x := by
  simp [Lit.wf, IntKind.min, IntKind.max, IntKind.signed, IntKind.bits] at h
  exact ⟨by omega, by omega⟩

/-- A cell is read at no spot. -/
theorem spot_none {w : World} {a : Addr} {v : Value} (h : w.cell? (a.add 0) = some v) : ∃ b o, a = ⟨b, o, none⟩ := by
  obtain ⟨b, o, spot⟩ := a
  have hs : spot = none := by simpa [Addr.add] using World.cell?_spot h
  subst hs
  exact ⟨b, o, rfl⟩

theorem len3 {α : Type} {l : List α} (h : l.length = 3) : ∃ a b c, l = [a, b, c] := by
  match l, h with
  | [a, b, c], _ => exact ⟨a, b, c, rfl⟩
theorem len7 {α : Type} {l : List α} (h : l.length = 7) : ∃ a b c d e f g, l = [a, b, c, d, e, f, g] := by
  match l, h with
  | [a, b, c, d, e, f, g], _ => exact ⟨a, b, c, d, e, f, g, rfl⟩

section
variable {H : Type} {enc : TypeId × Value → H} {W : World} {base : Nat} {sp : Nat → Bool} {held : Bool}

theorem open_u64s {fuel : Nat} {cs : List Value} {x : DataW H × List MemPlace} (h : DataW.trod enc Yba.prog W base sp held fuel 49 cs = some x) :
    ∃ (p : Option Addr) (c : Nat) (xs : List Int), cs = [.slice p xs.length c] ∧ Cs W p xs ∧ (p = none → xs = [] ∧ c = 0) ∧ ∀ x ∈ xs, U64 x := by
  rcases open_ints Yba.underlying49 Yba.underlying22 Yba.cells22 h with ⟨rfl, _⟩ | ⟨a, len, cap, zs, rfl, _, hl, _, hz, _, hcell, hwz⟩
  · exact ⟨none, 0, [], rfl, fun j hj => absurd hj (Nat.not_lt_zero _), fun _ => ⟨rfl, rfl⟩, fun x hx => absurd hx (by simp)⟩
  · have hlz : len ≤ zs.length := by rw [hz]; split <;> omega
    refine ⟨some a, cap, zs.take len, by simp [Nat.min_eq_left hlz], fun j hj => ?_, fun e => (by cases e), fun x hx => wf_to_u64 (hwz x (List.mem_of_mem_take hx))⟩
    have hj' : j < len := by simp at hj; omega
    obtain ⟨b, o, rfl⟩ := spot_none (hcell 0 (by omega))
    refine ⟨b, o, rfl, ?_⟩
    have hc := hcell j (by omega)
    rw [add_plain] at hc
    rw [hc]
    simp [List.getD, hj']

theorem open_jo {fuel : Nat} {cs : List Value} {x : DataW H × List MemPlace} (h : DataW.trod enc Yba.prog W base sp held fuel 50 cs = some x) :
    ∃ (p : Option Addr) (c : Nat) (J : List Jo), cs = [.slice p J.length c] ∧ JCs W p J ∧ ∀ j ∈ J, U64 j.1 ∧ U64 j.2.1 ∧ U64 j.2.2 := by
  rcases Go.Deep.open_slice Yba.underlying50 h with ⟨rfl, _⟩ | ⟨a, len, cap, m, n, D, Pl, rfl, _, hl, _, hmm, _, hx⟩
  · exact ⟨none, 0, [], rfl, fun j hj => absurd hj (Nat.not_lt_zero _), fun x hx => absurd hx (by simp)⟩
  · have hlm : len ≤ m := by rw [hmm]; split <;> omega
    have each : ∀ i, i < len → ∃ q : Jo, (W.cell? (a.add (i * 3)) = some (.int .u64 q.1) ∧ W.cell? (a.add (i * 3 + 1)) = some (.int .u64 q.2.1) ∧ W.cell? (a.add (i * 3 + 2)) = some (.int .u64 q.2.2)) ∧ U64 q.1 ∧ U64 q.2.1 ∧ U64 q.2.2 := by
      intro i hi
      obtain ⟨cs', h1, h2⟩ := hx i (by omega)
      rw [Yba.cells92] at h1
      obtain ⟨_, hlen, hcell⟩ := World.cells?_some h1
      obtain ⟨xs, n, _, _, _, hxl, hf⟩ := DataW.trod_struct Yba.underlying92 h2
      obtain ⟨c0, c1, c2, rfl⟩ := len3 hlen
      obtain ⟨x0, x1, x2, rfl⟩ := len3 hxl
      have f0 : DataW.trod enc Yba.prog W base sp held n 22 (([c0, c1, c2].drop 0).take (Yba.prog.cellsOf 22)) = some x0 := hf 0 _ rfl
      rw [Yba.cells22] at f0
      have f1 : DataW.trod enc Yba.prog W base sp held n 22 (([c0, c1, c2].drop 1).take (Yba.prog.cellsOf 22)) = some x1 := hf 1 _ rfl
      rw [Yba.cells22] at f1
      have f2 : DataW.trod enc Yba.prog W base sp held n 22 (([c0, c1, c2].drop 2).take (Yba.prog.cellsOf 22)) = some x2 := hf 2 _ rfl
      rw [Yba.cells22] at f2
      clear hf
      obtain ⟨s, e0, _, w0⟩ := DataW.trod_int Yba.underlying22 f0
      obtain ⟨q, e1, _, w1⟩ := DataW.trod_int Yba.underlying22 f1
      obtain ⟨p, e2, _, w2⟩ := DataW.trod_int Yba.underlying22 f2
      simp at e0 e1 e2
      subst e0; subst e1; subst e2
      have c0 := hcell 0 (by omega)
      have c1 := hcell 1 (by omega)
      have c2 := hcell 2 (by omega)
      rw [Go.Deep.add_add] at c0 c1 c2
      exact ⟨(s, q, p), ⟨c0, c1, c2⟩, wf_to_u64 w0, wf_to_u64 w1, wf_to_u64 w2⟩
    obtain ⟨q, hq⟩ := Go.Deep.choose_lt each
    refine ⟨some a, cap, (List.range len).map q, by simp, fun j hj => ?_, fun x hx => ?_⟩
    · have hj' : j < len := by simpa using hj
      obtain ⟨g0, g1, g2⟩ := (hq j hj').1
      obtain ⟨b, o, rfl⟩ := spot_none (by have := (hq 0 (by omega)).1.1; rwa [Nat.zero_mul] at this)
      have e : ((List.range len).map q).getD j (0, 0, 0) = q j := by simp [List.getD, hj']
      rw [e]
      rw [add_plain] at g0 g1 g2
      exact ⟨b, o, rfl, g0, g1, g2⟩
    · obtain ⟨i, hi, rfl⟩ := List.mem_map.1 hx
      exact (hq i (List.mem_range.1 hi)).2

theorem open_tab {fuel : Nat} {cs : List Value} {x : DataW H × List MemPlace} (h : DataW.trod enc Yba.prog W base sp held fuel 52 cs = some x) :
    ∃ (v : Zv) (z : Zt), cs = (zcells v z).toList ∧ ZRaw W v z := by
  obtain ⟨xs, n, _, _, hlen, hxl, hf⟩ := DataW.trod_struct Yba.underlying52 h
  rw [Yba.cells52] at hlen
  obtain ⟨c0, c1, c2, c3, c4, c5, c6, rfl⟩ := len7 hlen
  obtain ⟨x0, x1, x2, x3, x4, x5, x6, rfl⟩ := len7 hxl
  have f0 : DataW.trod enc Yba.prog W base sp held n 49 (([c0, c1, c2, c3, c4, c5, c6].drop 0).take (Yba.prog.cellsOf 49)) = some x0 := hf 0 _ rfl
  rw [Yba.cells49] at f0
  have f1 : DataW.trod enc Yba.prog W base sp held n 49 (([c0, c1, c2, c3, c4, c5, c6].drop 1).take (Yba.prog.cellsOf 49)) = some x1 := hf 1 _ rfl
  rw [Yba.cells49] at f1
  have f2 : DataW.trod enc Yba.prog W base sp held n 49 (([c0, c1, c2, c3, c4, c5, c6].drop 2).take (Yba.prog.cellsOf 49)) = some x2 := hf 2 _ rfl
  rw [Yba.cells49] at f2
  have f3 : DataW.trod enc Yba.prog W base sp held n 49 (([c0, c1, c2, c3, c4, c5, c6].drop 3).take (Yba.prog.cellsOf 49)) = some x3 := hf 3 _ rfl
  rw [Yba.cells49] at f3
  have f4 : DataW.trod enc Yba.prog W base sp held n 50 (([c0, c1, c2, c3, c4, c5, c6].drop 4).take (Yba.prog.cellsOf 50)) = some x4 := hf 4 _ rfl
  rw [Yba.cells50] at f4
  have f5 : DataW.trod enc Yba.prog W base sp held n 22 (([c0, c1, c2, c3, c4, c5, c6].drop 5).take (Yba.prog.cellsOf 22)) = some x5 := hf 5 _ rfl
  rw [Yba.cells22] at f5
  have f6 : DataW.trod enc Yba.prog W base sp held n 22 (([c0, c1, c2, c3, c4, c5, c6].drop 6).take (Yba.prog.cellsOf 22)) = some x6 := hf 6 _ rfl
  rw [Yba.cells22] at f6
  clear hf
  obtain ⟨pe, ce, E, e0, hE, en, eu⟩ := open_u64s f0
  obtain ⟨pp, cp, P, e1, hP, pn, pu⟩ := open_u64s f1
  obtain ⟨ps, cs, S, e2, hS, sn, su⟩ := open_u64s f2
  obtain ⟨ph, ch, Hd, e3, hH, _, hu⟩ := open_u64s f3
  obtain ⟨pj, cj, J, e4, hJ, ju⟩ := open_jo f4
  obtain ⟨age, e5, _, au⟩ := DataW.trod_int Yba.underlying22 f5
  obtain ⟨wr, e6, _, wu⟩ := DataW.trod_int Yba.underlying22 f6
  simp at e0 e1 e2 e3 e4 e5 e6
  subst e0; subst e1; subst e2; subst e3; subst e4; subst e5; subst e6
  exact ⟨⟨pe, ce, pp, cp, ps, cs, ph, ch, pj, cj⟩, ⟨E, P, S, Hd, J, age, wr⟩, rfl, ⟨hE, hP, hS, hH, hJ, en, pn, sn, eu, pu, su, hu, ju, wf_to_u64 au, wf_to_u64 wu⟩⟩

abbrev zz0 : Zt := ⟨[], [], [], [], [], 0, 0⟩

/-- The whole argument. -/
theorem open_tabs {fuel : Nat} {a : Option Addr} {len cap : Nat} {x : DataW H × List MemPlace} (h : DataW.trod enc Yba.prog W base sp held fuel 48 [.slice a len cap] = some x) :
    ∃ (vs : List Zv) (zs : List Zt), vs.length = zs.length ∧ zs.length = len ∧ (∀ i, i < zs.length → ∃ b o, a = some ⟨b, o, none⟩ ∧ ZAt W b (o + i * 7) (vs.getD i v0) (zs.getD i zz0)) ∧ ∀ i, i < zs.length → ZRaw W (vs.getD i v0) (zs.getD i zz0) := by
  rcases Go.Deep.open_slice Yba.underlying48 h with ⟨hc, _⟩ | ⟨y, l, c, m, n, D, Pl, hc, _, hl, _, hmm, _, hx⟩
  · simp at hc
    obtain ⟨rfl, rfl, rfl⟩ := hc
    exact ⟨[], [], rfl, rfl, fun j hj => absurd hj (Nat.not_lt_zero _), fun j hj => absurd hj (Nat.not_lt_zero _)⟩
  · simp at hc
    obtain ⟨rfl, rfl, rfl⟩ := hc
    have hlm : len ≤ m := by rw [hmm]; split <;> omega
    have each : ∀ i, i < len → ∃ q : Zv × Zt, (∀ j, j < 7 → W.cell? (y.add (i * 7 + j)) = (zcells q.1 q.2).toList[j]?) ∧ ZRaw W q.1 q.2 := by
      intro i hi
      obtain ⟨cs', h1, h2⟩ := hx i (by omega)
      rw [Yba.cells52] at h1
      obtain ⟨_, hlen, hcell⟩ := World.cells?_some h1
      obtain ⟨v, z, rfl, hr⟩ := open_tab h2
      refine ⟨(v, z), fun j hj => ?_, hr⟩
      have := hcell j hj
      rwa [Go.Deep.add_add] at this
    have inh : Inhabited (Zv × Zt) := ⟨(v0, zz0)⟩
    obtain ⟨q, hq⟩ := Go.Deep.choose_lt each
    have hv : ∀ i, i < len → ((List.range len).map fun i => (q i).1).getD i v0 = (q i).1 := fun i hi => by simp [List.getD, hi]
    have hz : ∀ i, i < len → ((List.range len).map fun i => (q i).2).getD i zz0 = (q i).2 := fun i hi => by simp [List.getD, hi]
    refine ⟨(List.range len).map fun i => (q i).1, (List.range len).map fun i => (q i).2, by simp, by simp, fun i hi => ?_, fun i hi => ?_⟩
    · have hi' : i < len := by simpa using hi
      rw [hv i hi', hz i hi']
      obtain ⟨b, o, rfl⟩ := spot_none ((hq 0 (by omega)).1 0 (by omega))
      have g := (hq i hi').1
      have g0 := g 0 (by omega)
      have g1 := g 1 (by omega)
      have g2 := g 2 (by omega)
      have g3 := g 3 (by omega)
      have g4 := g 4 (by omega)
      have g5 := g 5 (by omega)
      have g6 := g 6 (by omega)
      rw [add_plain] at g0 g1 g2 g3 g4 g5 g6
      exact ⟨b, o, rfl, g0, g1, g2, g3, g4, g5, g6⟩
    · have hi' : i < len := by simpa using hi
      rw [hv i hi', hz i hi']
      exact (hq i hi').2
end
end Go.Proofs.Ybulkclso
