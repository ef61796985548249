import Derived.Test.YbulkclsoTab
import Derived.Deep.AppendLies
namespace Go.Proofs.Ybulkclso
open Go.RowKit Go.Maps

theorem bs_alloc {W w' : World} (h : Below W.heap.size W w') (o : Obj) : Below W.heap.size W (w'.alloc o) := h.alloc h.size o
theorem bs_call {W w' w'' : World} (h : Below W.heap.size W w') (k : Below w'.heap.size w' w'') : Below W.heap.size W w'' := h.trans (k.mono h.size)
theorem al {w : World} (o : Obj) : Below w.heap.size w (w.alloc o) := (Below.refl _ _).alloc (Nat.le_refl _) _

theorem jcells_snoc (J : List Jo) (j : Jo) : jcells (J ++ [j]) = jcells J ++ [.int .u64 j.1, .int .u64 j.2.1, .int .u64 j.2.2] := by simp [jcells]

/-- Behind 't.joining = append(t.joining, j)', ahead of the store. -/
theorem app_cell {w w1 : World} {r : Rec} {E P S : List Int} {D : DataW Unit} {wr : Int} {vJ : Value} {J : List Jo} {age : Int} (h : TabS w r E P S D wr vJ J age) (hg : w.grownBy w1 vJ.ownBlock) :
    w1.heap[r.b]? = w.heap[r.b]? ∧ w1.cell? ⟨r.b, 13, none⟩ = some vJ ∧ w1.frozen? ⟨r.b, 13, none⟩ = false := by
  have h3 := h.bhi
  have h4 := h.hi
  have hb : w1.heap[r.b]? = w.heap[r.b]? := hg.block r.b (by omega) (fun e => by have := (h.row.lt r.b e.symm).1; omega)
  obtain ⟨_, _, _, _, _, q13, _, _, f13, _⟩ := h.cellP
  exact ⟨hb, (World.cell?_of_block (w := w) (a := ⟨r.b, 13, none⟩) hb).trans q13, (World.frozen?_of_block (w := w) (a := ⟨r.b, 13, none⟩) hb).trans f13⟩

theorem app_tab {w w1 : World} {r : Rec} {E P S : List Int} {D : DataW Unit} {wr : Int} {vJ : Value} {J : List Jo} {age : Int} {g cap : Nat} {j : Jo} (h : TabS w r E P S D wr vJ J age) (hg : w.grownBy w1 vJ.ownBlock)
    (hown : w1.ownsRow (r.b + 1) 94 3 (.slice (some ⟨g, 0, none⟩) (J.length + 1) cap) (J.length + 1) (jcells J ++ [.int .u64 j.1, .int .u64 j.2.1, .int .u64 j.2.2])) (hlt : g < w1.heap.size) :
    TabS (w1.setCell ⟨r.b, 13, none⟩ (.slice (some ⟨g, 0, none⟩) (J.length + 1) cap)) { r with hi := w1.heap.size } E P S D wr (.slice (some ⟨g, 0, none⟩) (J.length + 1) cap) (J ++ [j]) age := by
  have h2 := h.mb
  have h3 := h.bhi
  have h4 := h.hi
  have h5 := hg.size
  have hgb := (hown.lt g rfl).1
  have hk : ∀ k, k < r.b → w1.heap[k]? = w.heap[k]? := fun k hk => hg.block k (by omega) (fun e => by have := (h.row.lt k e.symm).1; omega)
  have hkb := (app_cell h hg).1
  have hk2 : ∀ k, k ≠ r.b → (w1.setCell ⟨r.b, 13, none⟩ (.slice (some ⟨g, 0, none⟩) (J.length + 1) cap)).heap[k]? = w1.heap[k]? := fun k hk => Below.heap_setCell _ _ _ _ hk
  have hk3 : ∀ k, k < r.b → (w1.setCell ⟨r.b, 13, none⟩ (.slice (some ⟨g, 0, none⟩) (J.length + 1) cap)).heap[k]? = w.heap[k]? := fun k h => (hk2 k (by omega)).trans (hk k h)
  have hsz : (w1.setCell ⟨r.b, 13, none⟩ (.slice (some ⟨g, 0, none⟩) (J.length + 1) cap)).heap.size = w1.heap.size := by simp
  have hob : (w1.setCell ⟨r.b, 13, none⟩ (.slice (some ⟨g, 0, none⟩) (J.length + 1) cap)).heap[r.b]? = some (TObj (.slice r.pp P.length r.cp) (.slice r.ps S.length r.cs) (.slice r.pe E.length r.ce) r.m wr (.slice (some ⟨g, 0, none⟩) (J.length + 1) cap) age) := by
    have ho := hkb.trans h.obj
    unfold TObj at ho ⊢
    rw [setCell_obj ho]
    rfl
  refine ⟨h.mlo, h2, by show r.b < w1.heap.size; omega, by show w1.heap.size ≤ _; omega, hob, h.ecs.keep fun k _ hk' => hk3 k hk', h.pcs.keep fun k _ hk' => hk3 k hk', h.scs.keep fun k _ hk' => hk3 k hk', ?_, ?_, ?_⟩
  · obtain ⟨es, clock, hb, rest⟩ := h.map
    exact ⟨es, clock, (hk3 _ h2).trans hb, rest⟩
  · rw [jcells_snoc, List.length_append]
    exact ownsRow_setCell_other hown (by simp [Value.ownBlock]; omega) _
  · intro k hk'
    have : g = k := by simpa [Value.ownBlock] using hk'
    show k < w1.heap.size
    omega

theorem app_far {w w1 : World} {r : Rec} {E P S : List Int} {D : DataW Unit} {wr : Int} {vJ : Value} {J : List Jo} {age : Int} (h : TabS w r E P S D wr vJ J age) (hg : w.grownBy w1 vJ.ownBlock) {k o : Nat} {v : Value} (h1 : r.hi ≤ k)
    (hc : w.cell? ⟨k, o, none⟩ = some v) : w1.cell? ⟨k, o, none⟩ = some v :=
  (World.cell?_of_block (w := w) (a := ⟨k, o, none⟩) (hg.block k (World.block_lt_of_cell? w _ hc) (fun e => by have := h.rhi k e.symm; omega))).trans hc
end Go.Proofs.Ybulkclso
