import Derived.Test.YbulkclsoRows
import Derived.WalkKit
import Derived.ProofKit
import Derived.OpenShut
import Derived.ShutString
import Derived.ChangeOld
import Derived.Below
import Derived.Outline
import Derived.WalkLawsBesides
import Derived.Deep.QuietTactic
import Derived.BigQuiet
import Derived.RegionTactic
import Derived.Lib.SmallJoins
namespace Go.Proofs.Ybulkclso
open Go.RowKit

theorem Yba.info22 : (Yba.prog.info? 22).map (fun i => (i.zero, i.size, i.bytes)) = some (some (.int .u64 0), 1, 8) := by kernel_rfl

/-- The script's state: blocks N (ans), N+2 (log), N+3 (k), N+4 (walk's own p); the log's row lies from N+5 on. -/
structure Scr (N : Nat) (w1 : World) (lg : List Int) (k : Nat) (wr : World) : Prop where
  os : wr.os = w1.os
  tape : wr.tape = w1.tape
  output : wr.output = w1.output
  size : N + 5 ≤ wr.heap.size
  kept : ∀ b, b < N + 5 → b ≠ N + 2 → b ≠ N + 3 → wr.heap[b]? = w1.heap[b]?
  log : ∃ o c, wr.cell? ⟨N + 2, 0, none⟩ = some (.slice o lg.length c) ∧ wr.ownsRow (N + 5) 22 1 (.slice o lg.length c) lg.length (lg.map (Value.int .u64))
  kc : wr.cell? ⟨N + 3, 0, none⟩ = some (.int .i64 k)
  fz2 : wr.frozen? ⟨N + 2, 0, none⟩ = false
  fz3 : wr.frozen? ⟨N + 3, 0, none⟩ = false

theorem Scr.cell {N : Nat} {w1 wr : World} {lg : List Int} {k : Nat} (h : Scr N w1 lg k wr) {b o : Nat} (h5 : b < N + 5) (h2 : b ≠ N + 2) (h3 : b ≠ N + 3) : wr.cell? ⟨b, o, none⟩ = w1.cell? ⟨b, o, none⟩ :=
  World.cell?_of_block (w := w1) (a := ⟨b, o, none⟩) (h.kept b h5 h2 h3)

/-- What the script answers at call number k. -/
def ansAt (zs : List Int) (k : Nat) : Int := zs.getD k 0

theorem Scr.grown {N : Nat} {w1 wr w2 : World} {lg : List Int} {k : Nat} (h : Scr N w1 lg k wr) {o : Option Addr} {c : Nat} {B : Obj} (hown : wr.ownsRow (N + 5) 22 1 (.slice o lg.length c) lg.length (lg.map (Value.int .u64)))
    (hg : (wr.alloc B).grownBy w2 (Value.slice o lg.length c).ownBlock) : ∀ b, b < N + 5 → w2.heap[b]? = wr.heap[b]? := by
  intro b hb
  have hs := h.size
  rw [hg.block b (by simp; omega) (fun e => by have := (hown.lt b e.symm).1; omega)]
  exact Below.heap_alloc _ _ _ (by omega)

theorem Scr.next {N : Nat} {w1 wr w2 : World} {lg : List Int} {k : Nat} {x : Int} (h : Scr N w1 lg k wr) {o : Option Addr} {c g c' : Nat} {B : Obj} (hown : wr.ownsRow (N + 5) 22 1 (.slice o lg.length c) lg.length (lg.map (Value.int .u64)))
    (hg : (wr.alloc B).grownBy w2 (Value.slice o lg.length c).ownBlock)
    (hown2 : w2.ownsRow (N + 5) 22 1 (.slice (some ⟨g, 0, none⟩) (lg.length + 1) c') (lg.length + 1) (lg.map (Value.int .u64) ++ [.int .u64 x])) :
    Scr N w1 (lg ++ [x]) (k + 1) ((w2.setCell ⟨N + 2, 0, none⟩ (.slice (some ⟨g, 0, none⟩) (lg.length + 1) c')).setCell ⟨N + 3, 0, none⟩ (.int .i64 ((k : Int) + 1))) := by
  have hk := h.grown hown hg
  obtain ⟨_, _, hl, _⟩ := h.log
  have c2 : w2.cell? ⟨N + 2, 0, none⟩ = wr.cell? ⟨N + 2, 0, none⟩ := World.cell?_of_block (w := wr) (a := ⟨N + 2, 0, none⟩) (hk _ (by simp))
  have c3 : w2.cell? ⟨N + 3, 0, none⟩ = wr.cell? ⟨N + 3, 0, none⟩ := World.cell?_of_block (w := wr) (a := ⟨N + 3, 0, none⟩) (hk _ (by simp))
  have f2 : w2.frozen? ⟨N + 2, 0, none⟩ = wr.frozen? ⟨N + 2, 0, none⟩ := World.frozen?_of_block (w := wr) (a := ⟨N + 2, 0, none⟩) (hk _ (by simp))
  have f3 : w2.frozen? ⟨N + 3, 0, none⟩ = wr.frozen? ⟨N + 3, 0, none⟩ := World.frozen?_of_block (w := wr) (a := ⟨N + 3, 0, none⟩) (hk _ (by simp))
  have hgN : N + 5 ≤ g := (hown2.lt g rfl).1
  have hlen : (lg ++ [x]).length = lg.length + 1 := by simp
  refine ⟨hg.os.trans h.os, hg.tape.trans h.tape, hg.output.trans h.output, ?_, ?_, ?_, ?_, ?_, ?_⟩
  · have h1 := h.size
    have h2 := hg.size
    simp [World.setCell] at h2 ⊢; omega
  · intro b hb h2 h3
    rw [Below.heap_setCell _ _ _ _ (by simpa using h3), Below.heap_setCell _ _ _ _ (by simpa using h2), hk b hb]
    exact h.kept b hb h2 h3
  · refine ⟨some ⟨g, 0, none⟩, c', ?_, ?_⟩
    · rw [World.cell?_setCell_other _ _ _ _ (by intro e; injection e; omega), World.cell?_setCell_same _ _ _ (c2.trans hl), hlen]
    · rw [hlen, List.map_append]
      exact ownsRow_setCell_other (ownsRow_setCell_other hown2 (by simp [Value.ownBlock]; omega) _) (by simp [Value.ownBlock]; omega) _
  · rw [World.cell?_setCell_same _ _ _ (u := .int .i64 k) (by rw [World.cell?_setCell_other _ _ _ _ (by intro e; injection e; omega), c3]; exact h.kc)]
    simp
  · rw [World.frozen?_setCell, World.frozen?_setCell, f2]; exact h.fz2
  · rw [World.frozen?_setCell, World.frozen?_setCell, f3]; exact h.fz3

set_option maxHeartbeats 2000000 in
theorem step_any (N : Nat) (w1 : World) (a : Option Addr) (len cap : Nat) (zs lg : List Int) (k : Nat) (x : Int) (wr : World) (hz : zs.length = len) (hk : k ≤ 1024) (hlg : lg.length ≤ 1025)
    (hans : w1.cell? ⟨N, 0, none⟩ = some (.slice a len cap))
    (hrow : ∀ j, j < len → ∃ b off, a = some ⟨b, off, none⟩ ∧ b < N ∧ w1.cell? ⟨b, off + j, none⟩ = some (.int .u64 (zs.getD j 0)))
    (h : Scr N w1 lg k wr) :
    Calls Yba.prog 13 #[.int .u64 x, .pointer (some ⟨N + 2, 0, none⟩), .pointer (some ⟨N + 3, 0, none⟩), .pointer (some ⟨N, 0, none⟩)] wr fun e w' =>
      e = .returned (.int .u64 (ansAt zs k)) ∧ Scr N w1 (lg ++ [x]) (k + 1) w' := by
  obtain ⟨i0, hi, hz0, hz1, hz2⟩ := info_parts Yba.info22
  have hA : wr.cell? ⟨N, 0, none⟩ = some (.slice a len cap) := (h.cell (by omega) (by omega) (by omega)).trans hans
  obtain ⟨o, c, hl, hown⟩ := h.log
  have hkc := h.kc
  have f2 := h.fz2
  have f3 := h.fz3
  have hsz := h.size
  have hb2 : N + 2 < wr.heap.size := by omega
  have hb3 : N + 3 < wr.heap.size := by omega
  have hb0 : N < wr.heap.size := by omega
  go_enter Yba.func13, Yba.ntmps13
  go_wp2_with (at_builtin; refine wpList_append_own _ rfl _ _ 49 rfl (N + 5) 22 i0 (.int .u64 0) 1 8 Yba.underlying49 hi hz0 hz1 hz2 rfl (by decide) _ _ _ rfl (hown.alloc _) ⟨wr.heap.size, 0, none⟩ 1 1 [.int .u64 x] rfl rfl ?c1 ?c2 ?c3 ?c4 ?c5 ?_)
  case c1 =>
    intro j u hj
    match j, hj with
    | 0, hj => simp at hj; subst hj; simp [Addr.add]
  case c2 => intro u hu; simp at hu; subst hu; rfl
  case c3 => unfold maxLen; omega
  case c4 => omega
  case c5 => simp; omega
  intro v' w2 hown2 hg2 _
  obtain ⟨g, c', hv⟩ := Joins.ownsRow_form hown2 (by omega)
  subst hv
  have hk2 := h.grown hown hg2
  have HN : Hid _ := h.next hown hg2 hown2
  have hA2 : w2.cell? ⟨N, 0, none⟩ = some (.slice a len cap) := (World.cell?_of_block (w := wr) (a := ⟨N, 0, none⟩) (hk2 _ (by simp))).trans hA
  have c2 : w2.cell? ⟨N + 2, 0, none⟩ = some (.slice o lg.length c) := (World.cell?_of_block (w := wr) (a := ⟨N + 2, 0, none⟩) (hk2 _ (by simp))).trans hl
  have c3 : w2.cell? ⟨N + 3, 0, none⟩ = some (.int .i64 k) := (World.cell?_of_block (w := wr) (a := ⟨N + 3, 0, none⟩) (hk2 _ (by simp))).trans hkc
  have g2 : w2.frozen? ⟨N + 2, 0, none⟩ = false := (World.frozen?_of_block (w := wr) (a := ⟨N + 2, 0, none⟩) (hk2 _ (by simp))).trans f2
  have g3 : w2.frozen? ⟨N + 3, 0, none⟩ = false := (World.frozen?_of_block (w := wr) (a := ⟨N + 3, 0, none⟩) (hk2 _ (by simp))).trans f3
  clear hown2 hg2 hown hA hl hkc f2 f3 hb2 hb3 hb0 hans
  by_cases hlt : k < len
  · obtain ⟨b, off, rfl, hb, hc⟩ := hrow k hlt
    have hcx : w2.cell? ⟨b, off + k, none⟩ = some (.int .u64 (zs.getD k 0)) :=
      ((World.cell?_of_block (w := wr) (a := ⟨b, off + k, none⟩) (hk2 b (by omega))).trans (h.cell (by omega) (by omega) (by omega))).trans hc
    have n2 : ¬ b = N + 2 := by omega
    have HZ : Hid (ansAt zs k = zs.getD k 0) := rfl
    generalize zs.getD k 0 = z at *
    clear hrow hk2 hc
    go_wp2_with fail
    go_ret
    exact ⟨by rw [HZ.out]; rfl, HN.out⟩
  · have HZ : Hid (ansAt zs k = 0) := by show _ = _; simp [ansAt, List.getD, List.getElem?_eq_none (show zs.length ≤ k by omega)]
    clear hrow hk2
    go_wp2_with fail
    go_ret
    exact ⟨by rw [HZ.out]; rfl, HN.out⟩
end Go.Proofs.Ybulkclso
