import Derived.Test.YbulkclsoKnown
import Derived.Deep.QuietTactic
import Derived.BigQuiet
import Derived.RegionTactic
import Derived.Lib.SmallJoins
import Derived.WalkLawsBesides
import Derived.Laws.Cover3
namespace Go.Proofs.Ybulkclso
open Go.RowKit

theorem Cs.cell {w : World} {a : Option Addr} {xs : List Int} (h : Cs w a xs) {j : Nat} (hj : j < xs.length) : ∃ b o, a = some ⟨b, o, none⟩ ∧ w.cell? ⟨b, o + j, none⟩ = some (.int .u64 (xs.getD j 0)) := h j hj

theorem drewN_drewN (w : World) (m n : Nat) : (w.drewN m).drewN n = w.drewN (m + n) := by simp [World.drewN, Nat.add_assoc]

set_option maxHeartbeats 2000000 in
theorem equal_same (p q : Option Addr) (cp cq : Nat) (xs : List Int) (w : World) (hlen : xs.length ≤ 1024) (hp : Cs w p xs) (hq : Cs w q xs) :
    Calls Yba.prog 24 #[.slice p xs.length cp, .slice q xs.length cq] w fun e w' => e = .returned (.bool true) ∧ ∃ n, w' = w.drewN n := by
  have hl : (xs.length : Int) ≤ 1024 := by omega
  go_enter Yba.func24, Yba.ntmps24
  go_wp2_with fail
  go_loopw [13] (fun si wr => ∃ k : Nat, k ≤ xs.length ∧ si = .int .i64 k ∧ ∃ m, wr = w.drewN m) (fun si _ => (xs.length - intOf si).toNat)
  case atStart => exact ⟨0, by omega, rfl, 0, rfl⟩
  case round =>
    obtain ⟨k, hk, rfl, m, hm⟩ := hrel
    have HM : Hid _ := hm
    by_cases hlt : k < xs.length
    · obtain ⟨b, o, rfl, hc⟩ := hp k hlt
      obtain ⟨b', o', rfl, hc'⟩ := hq k hlt
      replace hc : wr.cell? ⟨b, o + k, none⟩ = some (.int .u64 (xs.getD k 0)) := by rw [hm]; exact hc
      replace hc' : wr.cell? ⟨b', o' + k, none⟩ = some (.int .u64 (xs.getD k 0)) := by rw [hm]; exact hc'
      clear hp hq hm
      generalize xs.getD k 0 = z at *
      go_wp2_with fail
      go_quiet (fail)
      go_wp2_with fail
      go_roundw
      case rel => exact ⟨k + 1, by omega, by go_num, _, by rw [HM.out, drewN_drewN]⟩
      case measure => simp [intOf]; omega
    · obtain rfl : k = xs.length := by omega
      clear hp hq hm
      go_wp2_with fail
      go_ret
      exact ⟨rfl, _, HM.out⟩

/-- The first place of x, or -1. -/
def idxOf (xs : List Int) (x : Int) : Int := match xs.findIdx? (· == x) with | some i => (i : Int) | none => -1
theorem idxOf_hit {xs : List Int} {x : Int} {k : Nat} (hk : k < xs.length) (he : xs.getD k 0 = x) (hno : ∀ j, j < k → xs.getD j 0 ≠ x) : idxOf xs x = k := by
  have h : xs.findIdx? (· == x) = some k := by
    rw [List.findIdx?_eq_some_iff_getElem]
    refine ⟨hk, ?_, ?_⟩
    · simp [List.getD, hk] at he; simp [he]
    · intro j hj
      have := hno j hj
      simp [List.getD, show j < xs.length by omega] at this
      simp [this]
  simp [idxOf, h]
theorem idxOf_miss {xs : List Int} {x : Int} (hno : ∀ j, j < xs.length → xs.getD j 0 ≠ x) : idxOf xs x = -1 := by
  have h : xs.findIdx? (· == x) = none := by
    rw [List.findIdx?_eq_none_iff]
    intro y hy
    obtain ⟨j, hj, rfl⟩ := List.getElem_of_mem hy
    have := hno j hj
    simp [List.getD, hj] at this
    simp [this]
  simp [idxOf, h]

set_option maxHeartbeats 2000000 in
theorem index_any (p : Option Addr) (cp : Nat) (xs : List Int) (x : Int) (w : World) (hlen : xs.length ≤ 1024) (hp : Cs w p xs) :
    Calls Yba.prog 25 #[.slice p xs.length cp, .int .u64 x] w fun e w' => e = .returned (.int .i64 (idxOf xs x)) ∧ w' = w := by
  have hl : (xs.length : Int) ≤ 1024 := by omega
  go_enter Yba.func25, Yba.ntmps25
  go_wp2_with fail
  go_loopw [8] (fun si wr => ∃ k : Nat, k ≤ xs.length ∧ si = .int .i64 k ∧ wr = w ∧ ∀ j, j < k → xs.getD j 0 ≠ x) (fun si _ => (xs.length - intOf si).toNat)
  case atStart => exact ⟨0, by omega, rfl, rfl, fun j hj => absurd hj (Nat.not_lt_zero _)⟩
  case round =>
    obtain ⟨k, hk, rfl, rfl, hno⟩ := hrel
    have HN : Hid _ := hno
    clear hno
    by_cases hlt : k < xs.length
    · obtain ⟨b, o, rfl, hc⟩ := hp k hlt
      clear hp
      by_cases he : xs.getD k 0 = x
      · have HI : Hid (idxOf xs x = k) := idxOf_hit hlt he HN.out
        rw [he] at hc
        go_wp2_with fail
        go_ret
        exact ⟨by rw [HI.out]; rfl, rfl⟩
      · obtain ⟨z, hz⟩ : ∃ z, z = xs.getD k 0 := ⟨_, rfl⟩
        have HE : Hid (xs.getD k 0 ≠ x) := he
        have he' : ¬ x = z := fun e => he (by rw [← hz, e])
        rw [← hz] at hc
        clear he hz
        go_wp2_with fail
        go_roundw
        case rel => exact ⟨k + 1, by omega, by go_num, by first | rfl | trivial, fun j hj => by
          rcases Nat.lt_succ_iff_lt_or_eq.1 hj with h | rfl
          · exact HN.out j h
          · exact HE.out⟩
        case measure => simp [intOf]; omega
    · obtain rfl : k = xs.length := by omega
      have HI : Hid (idxOf xs x = -1) := idxOf_miss HN.out
      clear hp
      go_wp2_with fail
      go_ret
      exact ⟨by rw [HI.out]; rfl, rfl⟩

theorem idxOf_nonneg (xs : List Int) (x : Int) : decide (0 ≤ idxOf xs x) = xs.contains x := by
  unfold idxOf
  cases h : xs.findIdx? (· == x) with
  | some i =>
    have hm : x ∈ xs := by
      obtain ⟨hi, he, _⟩ := List.findIdx?_eq_some_iff_getElem.1 h
      have : xs[i] = x := by simpa using he
      exact this ▸ List.getElem_mem hi
    simp [hm]
  | none =>
    have hm : x ∉ xs := by
      intro hx
      have := List.findIdx?_eq_none_iff.1 h x hx
      simp at this
    simp [hm]

set_option maxHeartbeats 2000000 in
theorem contains_any (p : Option Addr) (cp : Nat) (xs : List Int) (x : Int) (w : World) (hlen : xs.length ≤ 1024) (hp : Cs w p xs) :
    Calls Yba.prog 26 #[.slice p xs.length cp, .int .u64 x] w fun e w' => e = .returned (.bool (xs.contains x)) ∧ w' = w := by
  have HI : Hid _ := idxOf_nonneg xs x
  go_enter Yba.func26, Yba.ntmps26
  go_wp2_with (go_at_call 25; refine (index_any _ _ _ _ _ hlen hp).mono ?_; rintro e w' ⟨rfl, rfl⟩)
  go_ret
  exact ⟨by rw [← HI.out]; rfl, rfl⟩

theorem Yba.info22 : (Yba.prog.info? 22).map (fun i => (i.zero, i.size, i.bytes)) = some (some (.int .u64 0), 1, 8) := by kernel_rfl

theorem eql_nil (a : Option Addr) (l c : Nat) (W : World) : (binOp .eql 49 (.slice a l c) (.slice none 0 0)).run Yba.prog W = .ok (.bool a.isNone) W := by
  simp only [binOp]
  simp [run_equal_slice_nil W 49 22 a l c Yba.underlying49]

set_option maxHeartbeats 2000000 in
theorem clone_nil (w : World) :
    Calls Yba.prog 22 #[.slice none 0 0] w fun e w' => e = .returned (.slice none 0 0) ∧ w' = w := by
  have hen := eql_nil
  go_enter Yba.func22, Yba.ntmps22
  go_wp2_with fail
  go_ret
  exact ⟨rfl, rfl⟩

/-- The row at q holds the numbers xs, in blocks lo .. hi - 1. -/
def RowIn (w : World) (lo hi : Nat) (q : Option Addr) (xs : List Int) : Prop := ∀ j, j < xs.length → ∃ b o, q = some ⟨b, o, none⟩ ∧ lo ≤ b ∧ b < hi ∧ w.cell? ⟨b, o + j, none⟩ = some (.int .u64 (xs.getD j 0))

theorem RowIn.cs {w : World} {lo hi : Nat} {q : Option Addr} {xs : List Int} (h : RowIn w lo hi q xs) : Cs w q xs := fun j hj => by
  obtain ⟨b, o, e, _, _, hc⟩ := h j hj
  exact ⟨b, o, e, hc⟩
theorem RowIn.keep {w w' : World} {lo hi : Nat} {q : Option Addr} {xs : List Int} (h : RowIn w lo hi q xs) (hk : ∀ k, lo ≤ k → k < hi → w'.heap[k]? = w.heap[k]?) : RowIn w' lo hi q xs := fun j hj => by
  obtain ⟨b, o, e, h1, h2, hc⟩ := h j hj
  exact ⟨b, o, e, h1, h2, (World.cell?_of_block (w := w) (a := ⟨b, o + j, none⟩) (hk b h1 h2)).trans hc⟩
theorem RowIn.mono {w : World} {lo hi lo' hi' : Nat} {q : Option Addr} {xs : List Int} (h : RowIn w lo hi q xs) (h1 : lo' ≤ lo) (h2 : hi ≤ hi') : RowIn w lo' hi' q xs := fun j hj => by
  obtain ⟨b, o, e, h3, h4, hc⟩ := h j hj
  exact ⟨b, o, e, by omega, by omega, hc⟩
theorem RowIn.of_own {w : World} {base g cap : Nat} {e : TypeId} {xs : List Int} (h : w.ownsRow base e 1 (.slice (some ⟨g, 0, none⟩) xs.length cap) xs.length (xs.map (Value.int .u64))) : RowIn w base w.heap.size (some ⟨g, 0, none⟩) xs := fun j hj => by
  have hc := h.cellAt j (by omega)
  refine ⟨g, 0, rfl, (h.lt g rfl).1, (h.lt g rfl).2, ?_⟩
  rw [Nat.zero_add, hc]
  simp [List.getD, hj]

theorem Cs.news {w : World} {a : Addr} {xs : List Int} (hp : Cs w (some a) xs) (O : Obj) : ∀ j u, (xs.map (Value.int .u64))[j]? = some u → (w.alloc O).cell? (a.add j) = some u := by
  intro j u hj
  have hlt : j < xs.length := by
    have := (List.getElem?_eq_some_iff.1 hj).1
    simpa using this
  obtain ⟨b, o, e, hc⟩ := hp j hlt
  injection e with e
  subst e
  have hb : (w.alloc O).cell? ⟨b, o + j, none⟩ = w.cell? ⟨b, o + j, none⟩ := World.cell?_alloc_past _ _ _ (World.block_lt_of_cell? _ _ hc)
  have hu : u = .int .u64 (xs.getD j 0) := by simp [hlt] at hj; simp [List.getD, hlt, hj]
  have ha : (⟨b, o, none⟩ : Addr).add j = ⟨b, o + j, none⟩ := by simp [Addr.add]
  rw [ha, hb, hc, hu]

set_option maxHeartbeats 2000000 in
theorem clone_some (a : Addr) (cp : Nat) (xs : List Int) (w : World) (hlen : xs.length ≤ 1024) (hp : Cs w (some a) xs) :
    Calls Yba.prog 22 #[.slice (some a) xs.length cp] w fun e w' => ∃ q cq, e = .returned (.slice q xs.length cq) ∧ Below w.heap.size w w' ∧ RowIn w' w.heap.size w'.heap.size q xs := by
  obtain ⟨i0, hi, hz0, hz1, hz2⟩ := info_parts Yba.info22
  have hen := eql_nil
  have hown : (w.alloc (.cells #[] 22)).ownsRow w.heap.size 22 1 (.slice (some ⟨w.heap.size, 0, none⟩) 0 0) 0 [] :=
    ⟨rfl, Or.inr ⟨w.heap.size, 0, #[], rfl, Nat.le_refl _, World.alloc_heap_new w _, Nat.le_refl _, Nat.zero_le _, rfl, rfl⟩⟩
  go_enter Yba.func22, Yba.ntmps22
  go_wp2_with (at_builtin; refine wpList_append_own _ rfl _ _ 49 rfl w.heap.size 22 i0 (.int .u64 0) 1 8 Yba.underlying49 hi hz0 hz1 hz2 rfl (by decide) _ _ _ rfl hown a xs.length cp (xs.map (Value.int .u64)) rfl ?c0 ?c1 ?c2 ?c3 ?c4 ?c5 ?_)
  case c0 => simp
  case c1 => exact hp.news _
  case c2 => intro u hu; obtain ⟨x, _, rfl⟩ := List.mem_map.1 hu; rfl
  case c3 => unfold maxLen; omega
  case c4 => omega
  case c5 => simp
  intro v' w2 hown2 hg2 hnil
  replace hown2 : w2.ownsRow w.heap.size 22 1 v' xs.length (xs.map (Value.int .u64)) := by simpa using hown2
  have hbel : Below w.heap.size w w2 := ((Below.refl _ w).alloc (Nat.le_refl _) _).grown hg2 (by simp) (fun k e => by simp [Value.ownBlock] at e; omega)
  rcases Joins.ownsRow_forms hown2 with ⟨h1, h2⟩ | ⟨g, cap, rfl⟩
  · exact absurd h1 (by simpa using hnil)
  · have hrow := RowIn.of_own hown2
    clear hown2 hnil hg2 hown hp
    go_wp2_with fail
    go_ret
    exact ⟨_, _, rfl, hbel, hrow⟩

theorem clone_any (q0 : Option Addr) (cp : Nat) (xs : List Int) (w : World) (hlen : xs.length ≤ 1024) (hp : Cs w q0 xs) (hn : q0 = none → xs = [] ∧ cp = 0) :
    Calls Yba.prog 22 #[.slice q0 xs.length cp] w fun e w' => ∃ q cq, e = .returned (.slice q xs.length cq) ∧ Below w.heap.size w w' ∧ RowIn w' w.heap.size w'.heap.size q xs := by
  cases q0 with
  | none =>
    obtain ⟨rfl, rfl⟩ := hn rfl
    refine (clone_nil w).mono ?_
    rintro e w' ⟨rfl, rfl⟩
    exact ⟨_, _, rfl, Below.refl _ _, fun j hj => absurd hj (Nat.not_lt_zero _)⟩
  | some a => exact clone_some a cp xs w hlen hp
end Go.Proofs.Ybulkclso
