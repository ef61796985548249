import Derived.Test.YbulkclsoRange
import Derived.RangeFuncBound
import Derived.RangeFuncCalls
import Derived.Shelf.Abstract
import Derived.Shelf.RegionOpen
import Derived.WalkKit
import Derived.OwnWalkIn
import Derived.TacticsInMore
import Derived.LoopNIn
import Derived.LoopIn
import Derived.ProofKit
import Derived.Outline
namespace Go.Proofs.Ybulkclso
open Go.RowKit Go.Shelf
attribute [local go_sem] Oper.semAt_some

/-- The row at p holds the numbers xs. -/
def Cs (w : World) (p : Option Addr) (xs : List Int) : Prop := ∀ j, j < xs.length → ∃ b o, p = some ⟨b, o, none⟩ ∧ w.cell? ⟨b, o + j, none⟩ = some (.int .u64 (xs.getD j 0))

/-- What ahead$1 reads: the box bx of t, t's fields entries and Succs. -/
structure RdA (bx b : Nat) (pe : Option Addr) (ce : Nat) (E : List Int) (ps : Option Addr) (cs : Nat) (S : List Int) (W : World) : Prop where
  box : W.cell? ⟨bx, 0, none⟩ = some (.pointer (some ⟨b, 0, none⟩))
  ent : W.cell? ⟨b, 8, none⟩ = some (.slice pe E.length ce)
  suc : W.cell? ⟨b, 2, none⟩ = some (.slice ps S.length cs)
  ecs : Cs W pe E
  scs : Cs W ps S

def eAt (E : List Int) (i : Nat) : Int × Int := (E.getD (E.length - 1 - i) 0, (E.length : Int) - 1 - i)
def upE (E : List Int) (i : Nat) : List (Int × Int) := (List.range i).map (eAt E)
def upS (E S : List Int) (k : Nat) : List (Int × Int) := upE E E.length ++ (List.range k).map (fun j => (S.getD j 0, (-1 : Int)))
theorem upE_succ (E : List Int) (i : Nat) : upE E (i + 1) = upE E i ++ [eAt E i] := by simp [upE, List.range_succ]
theorem upS_succ (E S : List Int) (k : Nat) : upS E S (k + 1) = upS E S k ++ [(S.getD k 0, -1)] := by simp [upS, List.range_succ]
theorem range_prefix {i n : Nat} (h : i ≤ n) : List.range i <+: List.range n := by
  obtain ⟨d, rfl⟩ := Nat.exists_eq_add_of_le h
  rw [List.range_add]
  exact List.prefix_append _ _
theorem upE_pre {E S : List Int} {i : Nat} (h : i ≤ E.length) : upE E i <+: upS E S S.length := by
  refine (List.IsPrefix.trans ?_ (List.prefix_append _ _))
  obtain ⟨t, ht⟩ := range_prefix h
  exact ⟨t.map (eAt E), by rw [upE, upE, ← ht, List.map_append]⟩
theorem upS_pre {E S : List Int} {k : Nat} (h : k ≤ S.length) : upS E S k <+: upS E S S.length := by
  obtain ⟨t, ht⟩ := range_prefix h
  exact ⟨t.map (fun j => (S.getD j 0, (-1 : Int))), by rw [upS, upS, ← ht, List.map_append, List.append_assoc]⟩

set_option maxRecDepth 100000 in
set_option maxHeartbeats 4000000 in
theorem ahead1_any (bx b : Nat) (pe : Option Addr) (ce : Nat) (E : List Int) (ps : Option Addr) (cs : Nat) (S : List Int) (hE : E.length ≤ 1024) (hS : S.length ≤ 1024) :
    SeqAll Yba.prog 34 #[.pointer (some ⟨bx, 0, none⟩)] (fun x : Int × Int => #[.int .u64 x.1, .int .i64 x.2]) (upS E S S.length) (RdA bx b pe ce E ps cs S) := by
  intro l J W _ hRd hY h0
  have hY1 : ∀ pre x W1, J pre W1 ∧ W.heap.size ≤ W1.heap.size → (pre ++ [x]) <+: upS E S S.length →
      YieldAt Fence.wide 0 Yba.prog l #[.int .u64 x.1, .int .i64 x.2] W1 fun e W' => e = .returned (.bool true) ∧ J (pre ++ [x]) W' ∧ W.heap.size ≤ W'.heap.size :=
    fun pre x W1 h1 h2 => (hY pre x W1 h1.1 h2 h1.2).mono (fun e w h => ⟨h.1, h.2.1, Nat.le_trans h1.2 h.2.2.size⟩)
  clear hY
  have h0' : J [] W ∧ W.heap.size ≤ W.heap.size := ⟨h0, Nat.le_refl _⟩
  obtain ⟨r0, r1, r2, _, _⟩ := hRd _ _ h0
  have hE' : (E.length : Int) ≤ 1024 := by omega
  have hS' : (S.length : Int) ≤ 1024 := by omega
  refine callsIn_of_wp Yba.func34 rfl trivial ?_ rfl
  simp only [Yba.ntmps34, List.size_toArray, List.length_cons, List.length_nil, Nat.reduceAdd, Nat.reduceSub, Array.replicate_succ, Array.replicate_zero, List.push_toArray, List.append_toArray, List.nil_append, List.cons_append]
  gi_wp2
  gi_loopw [3] (fun sj wr => ∃ (i : Nat) (jv : Int), i ≤ E.length ∧ jv = (E.length : Int) - 1 - i ∧ sj = .int .i64 jv ∧ J (upE E i) wr ∧ W.heap.size ≤ wr.heap.size)
    (fun sj _ => (intOf sj + 1).toNat)
  case atStart => exact ⟨0, _, Nat.zero_le _, by simp, rfl, h0'⟩
  case round =>
    obtain ⟨i, jv, hi, hjv, rfl, hJs⟩ := hrel
    obtain ⟨g0, g1, g2, g3, g4⟩ := hRd _ _ hJs.1
    by_cases hlt : i < E.length
    · have hj0 : 0 ≤ jv := by omega
      have hj1 : jv < (E.length : Int) := by omega
      have hjn : jv.toNat = E.length - 1 - i := by omega
      obtain ⟨eb, eo, rfl, hc⟩ := g3 (E.length - 1 - i) (by omega)
      rw [← hjn] at hc
      have hxe : eAt E i = (E.getD jv.toNat 0, jv) := by rw [hjn, hjv]; rfl
      have hY2 := hY1 _ (eAt E i) wr hJs (by rw [← upE_succ]; exact upE_pre (by omega))
      rw [← upE_succ, hxe] at hY2
      generalize E.getD jv.toNat 0 = z at *
      obtain ⟨fn, tmps, assign, body, hy, hR⟩ := hY2
      dsimp only at hy
      have HJ : Hid (jv = (E.length : Int) - 1 - i) := hjv
      clear g3 g4 hjn hxe hjv
      gi_wp2
      refine ⟨rfl, hR.mono ?_⟩
      rintro e W3 ⟨rfl, hJ3⟩
      gi_wp2
      go_roundw
      case rel => exact ⟨i + 1, jv - 1, by omega, by have := HJ.out; omega, by go_num, hJ3⟩
      case measure => simp [intOf]; omega
    · have hj0 : jv < 0 := by omega
      obtain rfl : i = E.length := by omega
      have hJ' : J (upS E S 0) wr ∧ W.heap.size ≤ wr.heap.size := by simpa [upS] using hJs
      clear g3 g4 hJs hjv
      gi_wp2
      gi_loopw [32] (fun sk wr => ∃ k : Nat, k ≤ S.length ∧ sk = .int .i64 k ∧ J (upS E S k) wr ∧ W.heap.size ≤ wr.heap.size)
        (fun sk _ => S.length - (intOf sk).toNat)
      case atStart => exact ⟨0, Nat.zero_le _, rfl, hJ'⟩
      case round =>
        obtain ⟨k, hk, rfl, hJs⟩ := hrel
        obtain ⟨_, _, _, _, q4⟩ := hRd _ _ hJs.1
        by_cases hlt2 : k < S.length
        · obtain ⟨sb, so, rfl, hc⟩ := q4 k hlt2
          have hY2 := hY1 _ (S.getD k 0, -1) wr hJs (by rw [← upS_succ]; exact upS_pre (by omega))
          rw [← upS_succ] at hY2
          generalize S.getD k 0 = z at *
          obtain ⟨fn, tmps, assign, body, hy, hR⟩ := hY2
          dsimp only at hy
          clear q4
          gi_wp2
          refine ⟨rfl, hR.mono ?_⟩
          rintro e W3 ⟨rfl, hJ3⟩
          gi_wp2
          go_roundw
          case rel => exact ⟨k + 1, by omega, by go_num, hJ3⟩
          case measure => simp [intOf]; omega
        · obtain rfl : k = S.length := by omega
          clear q4
          gi_wp2
          go_end0
          exact ⟨⟨_, rfl⟩, hJs.1⟩
end Go.Proofs.Ybulkclso
