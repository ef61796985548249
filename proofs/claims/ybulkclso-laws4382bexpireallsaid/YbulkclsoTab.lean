import Derived.Test.YbulkclsoSl
import Derived.Maps.RangeWalk
import Derived.Maps.Ext
import Derived.Deep.RegionHeld3
import Derived.Deep.DeepCutAuto
import Derived.Deep.CutRange
namespace Go.Proofs.Ybulkclso
open Go.RowKit Go.Maps

/-- heard{} -/
def hz : Value := .agg #[.int .u64 0, .bool false, .bool false, .int .u64 0, .int .u64 0, .int .u64 0]
/-- How an element of the map heard reads: it is heard{}. -/
def hElem : Value → Option (DataW Unit × List MemPlace)
  | .agg cs => match cs.toList with
    | [.int .u64 0, .bool false, .bool false, .int .u64 0, .int .u64 0, .int .u64 0] => some (.lit (.bool true), [])
    | _ => none
  | _ => none
theorem hElem_hz : hElem hz = some (.lit (.bool true), []) := rfl
theorem hElem_inv {v : Value} {y : DataW Unit × List MemPlace} (h : hElem v = some y) : v = hz ∧ y = (.lit (.bool true), []) := by
  cases v <;> try (cases h; done)
  rename_i cs
  obtain ⟨l⟩ := cs
  unfold hElem at h
  dsimp only at h
  split at h
  · exact ⟨rfl, by cases h; rfl⟩
  · cases h

theorem law22 : Keyed Yba.prog 22 := int_keyed Yba.underlying22

abbrev HMap (w : World) (m n : Nat) (D : DataW Unit) : Prop := w.ownsMap Yba.prog 22 hElem m n D

/-- A table as it lies in memory. -/
def TObj (vP vS vE : Value) (m : Nat) (wr : Int) (vJ : Value) (age : Int) : Obj :=
  .cells #[.int .u64 0, vP, vS, .int .u64 0, .int .u64 0, .slice none 0 0, .int .i64 0, .int .i64 0, vE, .int .i64 0, .map (some m), .int .u64 wr, .slice none 0 0, vJ, .slice none 0 0, .int .u64 0, .int .u64 0, .bool false, .bool false, .int .u64 age] 88

structure Rec where
  lo : Nat
  hi : Nat
  b : Nat
  m : Nat
  n : Nat
  pe : Option Addr
  ce : Nat
  pp : Option Addr
  cp : Nat
  ps : Option Addr
  cs : Nat

abbrev Jo := Int × Int × Int
def jcells (J : List Jo) : List Value := J.flatMap (fun j => [.int .u64 j.1, .int .u64 j.2.1, .int .u64 j.2.2])
theorem jcells_length (J : List Jo) : (jcells J).length = J.length * 3 := by
  induction J with
  | nil => rfl
  | cons j r ih => simp [jcells] at ih ⊢; omega

structure TabS (w : World) (r : Rec) (E P S : List Int) (D : DataW Unit) (wr : Int) (vJ : Value) (J : List Jo) (age : Int) : Prop where
  mlo : r.lo ≤ r.m
  mb : r.m < r.b
  bhi : r.b < r.hi
  hi : r.hi ≤ w.heap.size
  obj : w.heap[r.b]? = some (TObj (.slice r.pp P.length r.cp) (.slice r.ps S.length r.cs) (.slice r.pe E.length r.ce) r.m wr vJ age)
  ecs : RowIn w r.lo r.b r.pe E
  pcs : RowIn w r.lo r.b r.pp P
  scs : RowIn w r.lo r.b r.ps S
  map : HMap w r.m r.n D
  row : w.ownsRow (r.b + 1) 94 3 vJ J.length (jcells J)
  rhi : ∀ k, vJ.ownBlock = some k → k < r.hi

theorem TabS.keep {w w' : World} {r : Rec} {E P S : List Int} {D : DataW Unit} {wr : Int} {vJ : Value} {J : List Jo} {age : Int} (h : TabS w r E P S D wr vJ J age)
    (hs : r.hi ≤ w'.heap.size) (hk : ∀ k, r.lo ≤ k → k < r.hi → w'.heap[k]? = w.heap[k]?) : TabS w' r E P S D wr vJ J age := by
  have h1 := h.mlo
  have h2 := h.mb
  have h3 := h.bhi
  refine ⟨h1, h2, h3, hs, (hk _ (by omega) h3).trans h.obj, h.ecs.keep fun k a b => hk k a (by omega), h.pcs.keep fun k a b => hk k a (by omega), h.scs.keep fun k a b => hk k a (by omega), ?_, ?_, h.rhi⟩
  · obtain ⟨es, clock, hb, rest⟩ := h.map
    exact ⟨es, clock, (hk _ (by omega) (by omega)).trans hb, rest⟩
  · obtain ⟨hl, hr⟩ := h.row
    refine ⟨hl, ?_⟩
    rcases hr with hr | ⟨g, cap, cur, rfl, hg, hh, rest⟩
    · exact Or.inl hr
    · exact Or.inr ⟨g, cap, cur, rfl, hg, (hk g (by omega) (h.rhi g rfl)).trans hh, rest⟩

theorem TabS.cellP {w : World} {r : Rec} {E P S : List Int} {D : DataW Unit} {wr : Int} {vJ : Value} {J : List Jo} {age : Int} (h : TabS w r E P S D wr vJ J age) :
    w.cell? ⟨r.b, 1, none⟩ = some (.slice r.pp P.length r.cp) ∧ w.cell? ⟨r.b, 2, none⟩ = some (.slice r.ps S.length r.cs) ∧ w.cell? ⟨r.b, 8, none⟩ = some (.slice r.pe E.length r.ce) ∧
    w.cell? ⟨r.b, 10, none⟩ = some (.map (some r.m)) ∧ w.cell? ⟨r.b, 11, none⟩ = some (.int .u64 wr) ∧ w.cell? ⟨r.b, 13, none⟩ = some vJ ∧ w.cell? ⟨r.b, 19, none⟩ = some (.int .u64 age) ∧
    w.frozen? ⟨r.b, 11, none⟩ = false ∧ w.frozen? ⟨r.b, 13, none⟩ = false ∧ w.frozen? ⟨r.b, 19, none⟩ = false := by
  have ho := h.obj
  unfold TObj at ho
  refine ⟨?_, ?_, ?_, ?_, ?_, ?_, ?_, ?_, ?_, ?_⟩ <;> simp [World.cell?, World.frozen?, ho]

/-- The row at p holds the joiners J (three cells each). -/
def JCs (w : World) (p : Option Addr) (J : List Jo) : Prop := ∀ j, j < J.length → ∃ b o, p = some ⟨b, o, none⟩ ∧ w.cell? ⟨b, o + j * 3, none⟩ = some (.int .u64 (J.getD j (0, 0, 0)).1) ∧
  w.cell? ⟨b, o + j * 3 + 1, none⟩ = some (.int .u64 (J.getD j (0, 0, 0)).2.1) ∧ w.cell? ⟨b, o + j * 3 + 2, none⟩ = some (.int .u64 (J.getD j (0, 0, 0)).2.2)

/-- What the argument says of one table. -/
structure Zt where
  E : List Int
  P : List Int
  S : List Int
  H : List Int
  J : List Jo
  age : Int
  wr : Int

structure Zv where
  pe : Option Addr
  ce : Nat
  pp : Option Addr
  cp : Nat
  ps : Option Addr
  cs : Nat
  ph : Option Addr
  ch : Nat
  pj : Option Addr
  cj : Nat

def U64 (x : Int) : Prop := 0 ≤ x ∧ x ≤ 18446744073709551615

def zcells (v : Zv) (z : Zt) : Array Value := #[.slice v.pe z.E.length v.ce, .slice v.pp z.P.length v.cp, .slice v.ps z.S.length v.cs, .slice v.ph z.H.length v.ch, .slice v.pj z.J.length v.cj, .int .u64 z.age, .int .u64 z.wr]

structure ZOk (w : World) (v : Zv) (z : Zt) : Prop where
  ecs : Cs w v.pe z.E
  pcs : Cs w v.pp z.P
  scs : Cs w v.ps z.S
  hcs : Cs w v.ph z.H
  jcs : JCs w v.pj z.J
  en : v.pe = none → z.E = [] ∧ v.ce = 0
  pn : v.pp = none → z.P = [] ∧ v.cp = 0
  sn : v.ps = none → z.S = [] ∧ v.cs = 0
  el : z.E.length ≤ 1024
  pl : z.P.length ≤ 1024
  sl : z.S.length ≤ 1024
  hl : z.H.length ≤ 1024
  jl : z.J.length ≤ 1024
  eu : ∀ x ∈ z.E, U64 x
  pu : ∀ x ∈ z.P, U64 x
  su : ∀ x ∈ z.S, U64 x
  hu : ∀ x ∈ z.H, U64 x
  ju : ∀ j ∈ z.J, U64 j.1 ∧ U64 j.2.1 ∧ U64 j.2.2
  au : U64 z.age
  wu : U64 z.wr

theorem JCs.keep {w w' : World} {p : Option Addr} {J : List Jo} (h : JCs w p J) (hb : Below w.heap.size w w') : JCs w' p J := fun j hj => by
  obtain ⟨b, o, e, h0, h1, h2⟩ := h j hj
  exact ⟨b, o, e, (hb.cell (World.block_lt_of_cell? w _ h0)).trans h0, (hb.cell (World.block_lt_of_cell? w _ h1)).trans h1, (hb.cell (World.block_lt_of_cell? w _ h2)).trans h2⟩
theorem ZOk.keep {w w' : World} {v : Zv} {z : Zt} (h : ZOk w v z) (hb : Below w.heap.size w w') : ZOk w' v z :=
  { h with ecs := h.ecs.keep hb, pcs := h.pcs.keep hb, scs := h.scs.keep hb, hcs := h.hcs.keep hb, jcs := h.jcs.keep hb }

theorem wf_u64 {x : Int} (h : U64 x) : (Lit.int .u64 x).wf = true := by
  obtain ⟨h1, h2⟩ := h
  simp [Lit.wf, IntKind.min, IntKind.max, IntKind.signed, IntKind.bits]
  omega

theorem RowIn.keepMap {w w' : World} {lo hi m : Nat} {q : Option Addr} {xs : List Int} {es : Array MapEntry} {ck : Nat} (h : RowIn w lo hi q xs) (hm : w.heap[m]? = some (.map es ck)) (hg : w.grownBy w' (some m)) : RowIn w' lo hi q xs := fun j hj => by
  obtain ⟨b, o, e, h1, h2, hc⟩ := h j hj
  refine ⟨b, o, e, h1, h2, ?_⟩
  have hne : b ≠ m := by
    intro e1
    subst e1
    simp [World.cell?, hm] at hc
  exact (World.cell?_of_block (w := w) (a := ⟨b, o + j, none⟩) (hg.block b (World.block_lt_of_cell? w _ hc) (fun e2 => hne (by injection e2)))).trans hc

/-- The map has been written; nothing else. -/
theorem TabS.setMap {w w' : World} {r : Rec} {E P S : List Int} {D D' : DataW Unit} {wr : Int} {vJ : Value} {J : List Jo} {age : Int} {n : Nat} (h : TabS w r E P S D wr vJ J age)
    (hg : w.grownBy w' (some r.m)) (hm : HMap w' r.m n D') : TabS w' { r with n := n } E P S D' wr vJ J age := by
  obtain ⟨es, ck, he, _⟩ := h.map
  have h2 := h.mb
  have h3 := h.bhi
  have h4 := h.hi
  have ho : w'.heap[r.b]? = w.heap[r.b]? := hg.block r.b (by omega) (fun e => by injection e; omega)
  refine ⟨h.mlo, h2, h3, Nat.le_trans h4 hg.size, ho.trans h.obj, h.ecs.keepMap he hg, h.pcs.keepMap he hg, h.scs.keepMap he hg, hm, ?_, h.rhi⟩
  obtain ⟨hl, hr⟩ := h.row
  refine ⟨hl, ?_⟩
  rcases hr with hr | ⟨g, cap, cur, rfl, hgg, hh, rest⟩
  · exact Or.inl hr
  · have hgg' : r.b + 1 ≤ g := hgg
    exact Or.inr ⟨g, cap, cur, rfl, hgg, (hg.block g (Array.getElem?_eq_some_iff.1 hh).1 (fun e => by injection e; omega)).trans hh, rest⟩

theorem TabS.wide {w : World} {r : Rec} {E P S : List Int} {D : DataW Unit} {wr : Int} {vJ : Value} {J : List Jo} {age : Int} (h : TabS w r E P S D wr vJ J age) {hi n : Nat} (h1 : r.hi ≤ hi) (h2 : hi ≤ w.heap.size) (h3 : r.n ≤ n) :
    TabS w { r with hi := hi, n := n } E P S D wr vJ J age :=
  ⟨h.mlo, h.mb, Nat.lt_of_lt_of_le h.bhi h1, h2, h.obj, h.ecs, h.pcs, h.scs, h.map.mono h3, h.row, fun k hk => Nat.lt_of_lt_of_le (h.rhi k hk) h1⟩

/-- A store into one cell of the table's own block. -/
theorem TabS.setB {w w' : World} {r : Rec} {E P S : List Int} {D : DataW Unit} {wr wr' : Int} {vJ vJ' : Value} {J J' : List Jo} {age age' : Int} (h : TabS w r E P S D wr vJ J age) (hs : w'.heap.size = w.heap.size)
    (hk : ∀ k, k ≠ r.b → k < w.heap.size → w'.heap[k]? = w.heap[k]?)
    (ho : w'.heap[r.b]? = some (TObj (.slice r.pp P.length r.cp) (.slice r.ps S.length r.cs) (.slice r.pe E.length r.ce) r.m wr' vJ' age'))
    (hrow : w'.ownsRow (r.b + 1) 94 3 vJ' J'.length (jcells J')) (hrhi : ∀ k, vJ'.ownBlock = some k → k < r.hi) : TabS w' r E P S D wr' vJ' J' age' := by
  have h2 := h.mb
  have h3 := h.bhi
  have h4 := h.hi
  refine ⟨h.mlo, h2, h3, by omega, ho, h.ecs.keep fun k _ hk2 => hk k (by omega) (by omega), h.pcs.keep fun k _ hk2 => hk k (by omega) (by omega), h.scs.keep fun k _ hk2 => hk k (by omega) (by omega), ?_, hrow, hrhi⟩
  obtain ⟨es, clock, hb, rest⟩ := h.map
  exact ⟨es, clock, (hk _ (by omega) (by omega)).trans hb, rest⟩

theorem setCell_obj {w : World} {b i : Nat} {cs : Array Value} {t : TypeId} (h : w.heap[b]? = some (.cells cs t (0, 0))) (v : Value) : (w.setCell ⟨b, i, none⟩ v).heap[b]? = some (.cells (cs.setIfInBounds i v) t (0, 0)) :=
  heap_setCell_same w b i cs t v h
end Go.Proofs.Ybulkclso
