import Derived.Test.YbulkclsoRows
import Derived.RangeFuncNested
import Derived.RangeFuncLeaves
import Derived.Below
/- A RANGE OVER A FUNCTION WHOSE ROUNDS NEVER SAY 'no more', AND WHOSE ITERATOR MAY ITSELF RANGE OVER A FUNCTION: my own law (the kit's contracts let an iterator turn no loop's record). The border is the heap's size B where the iterator is entered: the iterator's own are the blocks from B on; the caller's invariant speaks of blocks below B alone. -/
namespace Go.Proofs.Ybulkclso
open Go.RowKit

/-- What lies from block B on lies as it lay. -/
structure Upper (B : Nat) (W W' : World) : Prop where
  size : W.heap.size ≤ W'.heap.size
  same : ∀ k, B ≤ k → k < W.heap.size → W'.heap[k]? = W.heap[k]?

theorem Upper.refl (B : Nat) (W : World) : Upper B W W := ⟨Nat.le_refl _, fun _ _ _ => rfl⟩
theorem Upper.trans {B : Nat} {U V W : World} (h : Upper B U V) (k : Upper B V W) : Upper B U W :=
  ⟨Nat.le_trans h.size k.size, fun i hi hlt => (k.same i hi (Nat.lt_of_lt_of_le hlt h.size)).trans (h.same i hi hlt)⟩

/-- THE ITERATOR'S CONTRACT: it hands over xs, in order, to whatever rounds that go on. -/
def SeqAll {α : Type} (P : Program) (g : Nat) (lb : Array Value) (encs : α → Array Value) (xs : List α) (Rd : World → Prop) : Prop :=
  ∀ (l : Nat) (J : List α → World → Prop) (W : World),
    (∀ s A A', J s A → Below W.heap.size A A' → J s A') →
    (∀ s A, J s A → Rd A) →
    (∀ pre x W1, J pre W1 → (pre ++ [x]) <+: xs → W.heap.size ≤ W1.heap.size →
      YieldAt Fence.wide 0 P l (encs x) W1 fun e W' => e = .returned (.bool true) ∧ J (pre ++ [x]) W' ∧ Upper W.heap.size W1 W') →
    J [] W →
    CallsIn Fence.wide 0 P g (#[.func (.yield l) #[] #[]] ++ lb) W fun e W' => (∃ v, e = .returned v) ∧ J xs W'

def onlyN (R : World → Prop) : Exit → Act → World → Prop
  | .normal, _, W => R W
  | _, _, _ => False

theorem below_putObj {B : Nat} {W : World} {r : Nat} (hr : B ≤ r) (o : Obj) : Below B W (W.putObj r o) :=
  ⟨rfl, rfl, rfl, by simp, fun k hk => World.putObj_heap_other (by omega)⟩

theorem wpIn_rangeAll {α : Type} {P : Program} {g : Operand} {ps : Array Tmp} {assign body : Code} {Q : Exit → Act → World → Prop} {a : Act} {w : World} {gf : Nat} {lb : Array Value}
    (hg : a.eval g = .func (.func gf) #[] lb) (eg : ∀ args w, (callFunc gf args).run P w = .ok (.enter gf args) w)
    {encs : α → Array Value} {xs : List α} {Rd : World → Prop} (hseq : SeqAll P gf lb encs xs Rd) (hps : ∀ x, (encs x).size = ps.size)
    (I : List α → World → Prop) (hI : ∀ s A A', I s A → Below w.heap.size A A' → I s A') (hRd : ∀ s A, I s A → Rd A) (h0 : I [] w) (a₁ : α → Act)
    (hassign : ∀ (l : Nat) (x : α) (W : World) (K : Act → World → Prop), K (a₁ x) W →
      assign.wpIn (Fence.wide.inRound l) 0 P (Exit.then K (fun _ _ _ => False)) { tmps := (ps.zip (encs x)).foldl (fun t (p, v) => t.setIfInBounds p v) a.tmps, defers := [] } W)
    (hbody : ∀ (l : Nat) (pre : List α) (x : α) (W : World), w.heap.size ≤ l → l < W.heap.size → I pre W → (pre ++ [x]) <+: xs →
      body.wpIn (Fence.wide.inRound l) 0 P (onlyN fun W' => I (pre ++ [x]) W' ∧ Upper w.heap.size W W') (a₁ x) W)
    (hdone : ∀ (D : Nat) (W : World), w.heap.size ≤ D → I xs W → W.heap[D]? = some (.deferred (some [])) → Q .normal { a with defers := { target := .collected D, args := #[] } :: a.defers } W) :
    (Code.rangeFunc g ps assign body).wpIn Fence.wide 0 P Q a w := by
  refine wpIn_rangeFunc ?_
  intro fn hfn
  obtain ⟨B, hB⟩ : ∃ B, B = w.heap.size := ⟨_, rfl⟩
  obtain ⟨rec, hrec⟩ : ∃ rec : LoopState → Loop, rec = fun st => { state := st, pending := none, fn, tmps := a.tmps, params := ps, assign, body, defers := B } := ⟨_, rfl⟩
  obtain ⟨W1, hW1⟩ : ∃ W1, (w.alloc (.deferred (some []))).alloc (.loop (rec .ready)) = W1 := ⟨_, rfl⟩
  have hs1 : W1.heap.size = B + 2 := by rw [← hW1, hB]; simp
  have hL1 : W1.heap[B + 1]? = some (.loop (rec .ready)) := by
    have := World.alloc_heap_new (w.alloc (.deferred (some []))) (.loop (rec .ready))
    rw [hW1, World.size_alloc, ← hB] at this; exact this
  have hK1 : W1.heap[B]? = some (.deferred (some [])) := by
    rw [← hW1, Below.heap_alloc _ _ _ (by simp [hB]), hB]; exact World.alloc_heap_new w _
  have hbw : Below w.heap.size w W1 := by
    rw [← hW1]; exact ((Below.refl _ w).alloc (Nat.le_refl _) _).alloc (by simp) _
  have hI1 : I [] W1 := hI _ _ _ h0 hbw
  refine ⟨B + 1, [{ target := .collected B, args := #[] }], W1, { target := .fn (.func gf) lb, args := #[.func (.yield (B + 1)) #[] #[]] }, W1, gf,
    #[.func (.yield (B + 1)) #[] #[]] ++ lb, W1, ?_, ?_, fun _ _ => trivial, ?_, fun h => by simp [Fence.wide] at h, ?_⟩
  · rw [← hW1, hrec, hB]; exact run_enterLoop_outer _ _ _ _ _
  · simp only [resolve, hg]
    simp [go_sem]
  · simp [invoke, go_sem, eg]
  · refine (hseq (B + 1) (fun pre W => I pre W ∧ W.heap[B + 1]? = some (.loop (rec .ready)) ∧ W.heap[B]? = some (.deferred (some []))) W1 ?_ (fun s A h => hRd s A h.1) ?_ ⟨hI1, hL1, hK1⟩).mono ?_
    · rintro s A A' ⟨h1, h2, h3⟩ hb
      rw [hs1] at hb
      exact ⟨hI s A A' h1 (hb.mono (by omega)), (hb.block _ (by omega)).trans h2, (hb.block _ (by omega)).trans h3⟩
    · rintro pre x W ⟨hi, hl, hk⟩ hpre hWs
      rw [hs1] at hWs
      have hy := run_yield (P := P) (args := encs x) hl (by rw [hrec]; exact hps x)
      rw [hrec] at hy
      refine ⟨fn, _, assign, body, hy, roundIn_of_wpIn hfn (hassign _ x W _ ⟨_, run_beginRound hl (by rw [hrec]), ?_⟩)⟩
      have hlt : B + 1 < W.heap.size := by omega
      have hl2 : (W.putObj (B + 1) (.loop { rec .ready with state := .busy })).heap[B + 1]? = some (.loop { rec .ready with state := .busy }) := World.putObj_heap_same hlt
      have hk2 : (W.putObj (B + 1) (.loop { rec .ready with state := .busy })).heap[B]? = some (.deferred (some [])) := (World.putObj_heap_other (by omega)).trans hk
      refine wpIn_mono (hbody (B + 1) pre x _ (by omega) (by simpa using hlt) (hI _ _ _ hi (below_putObj (by omega) _)) hpre) ?_
      rintro e a3 W3 hp
      cases e with
      | normal =>
        obtain ⟨hi3, hup⟩ : I (pre ++ [x]) W3 ∧ Upper w.heap.size _ W3 := hp
        have hl3 := (hup.same (B + 1) (by omega) (by simpa using hlt)).trans hl2
        have hk3 := (hup.same B (by omega) (by simp; omega)).trans hk2
        have hs3 : W.heap.size ≤ W3.heap.size := by simpa using hup.size
        refine ⟨_, _, run_endRound none hl3, rfl, ⟨hI _ _ _ hi3 (below_putObj (by omega) _), ?_, (World.putObj_heap_other (by omega)).trans hk3⟩, ?_, ?_⟩
        · rw [World.putObj_heap_same (by omega), hrec]; rfl
        · simpa using hs3
        · intro k hk4 hk5
          rw [hs1] at hk4
          rw [World.putObj_heap_other (by omega), hup.same k (by omega) (by simpa using hk5), World.putObj_heap_other (by omega)]
      | ret => exact hp.elim
      | exit id => exact hp.elim
      | goto t => exact hp.elim
      | panic ch => exact hp.elim
      | outgrown => exact hp.elim
    · rintro e W2 ⟨⟨v, rfl⟩, hi, hl, hk⟩
      have he := run_endLoop (P := P) hl (by rw [hrec]; simp)
      have hp : (rec LoopState.ready).pending = none := by rw [hrec]
      rw [hp] at he
      exact ⟨none, _, he, hdone B _ (by omega) (hI _ _ _ hi (below_putObj (r := B + 1) (by omega) _)) ((World.putObj_heap_other (by omega)).trans hk)⟩
end Go.Proofs.Ybulkclso
