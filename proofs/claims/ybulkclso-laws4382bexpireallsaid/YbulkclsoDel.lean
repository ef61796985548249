import Derived.Test.YbulkclsoApp
import Derived.WalkSmall
namespace Go.Proofs.Ybulkclso
open Go.RowKit Go.Maps

/-- Does the record of age ag go, at keep, in a table of this age? -/
def dies (keep age ag : Int) : Bool := decide (IntKind.u64.wrap (ag + keep) ≤ age)

def jv (j : Jo) : Value := .agg #[.int .u64 j.1, .int .u64 j.2.1, .int .u64 j.2.2]

set_option maxHeartbeats 2000000 in
theorem exp1_any (kb tb b : Nat) (keep age : Int) (j : Jo) (w : World) (hk : w.cell? ⟨kb, 0, none⟩ = some (.int .u64 keep)) (ht : w.cell? ⟨tb, 0, none⟩ = some (.pointer (some ⟨b, 0, none⟩))) (ha : w.cell? ⟨b, 19, none⟩ = some (.int .u64 age)) :
    Calls Yba.prog 30 #[jv j, .pointer (some ⟨kb, 0, none⟩), .pointer (some ⟨tb, 0, none⟩)] w fun e w' => e = .returned (.bool (dies keep age j.2.2)) ∧ Below w.heap.size w w' := by
  obtain ⟨jid, jcn, jag⟩ := j
  have l1 : kb < w.heap.size := World.block_lt_of_cell? _ _ hk
  have l2 : tb < w.heap.size := World.block_lt_of_cell? _ _ ht
  have l3 : b < w.heap.size := World.block_lt_of_cell? _ _ ha
  unfold jv
  go_enter Yba.func30, Yba.ntmps30
  go_wp2_with fail
  go_quiet (fail)
  go_wp2_with fail
  go_ret
  exact ⟨rfl, below_drewN ((Below.refl _ _).alloc (Nat.le_refl _) _) _⟩

/-- Element q of the row in block g is j. -/
structure JAt (w : World) (g q : Nat) (j : Jo) : Prop where
  c0 : w.cell? ⟨g, q * 3, none⟩ = some (.int .u64 j.1)
  c1 : w.cell? ⟨g, q * 3 + 1, none⟩ = some (.int .u64 j.2.1)
  c2 : w.cell? ⟨g, q * 3 + 2, none⟩ = some (.int .u64 j.2.2)

theorem JAt.of_block {w w' : World} {g q : Nat} {j : Jo} (h : JAt w g q j) (hb : w'.heap[g]? = w.heap[g]?) : JAt w' g q j :=
  ⟨(World.cell?_of_block (w := w) (a := ⟨g, q * 3, none⟩) hb).trans h.c0, (World.cell?_of_block (w := w) (a := ⟨g, q * 3 + 1, none⟩) hb).trans h.c1, (World.cell?_of_block (w := w) (a := ⟨g, q * 3 + 2, none⟩) hb).trans h.c2⟩

abbrev j0 : Jo := (0, 0, 0)

def jidx (p : Jo → Bool) (J : List Jo) : Int := match J.findIdx? p with | some i => (i : Int) | none => -1
theorem jidx_hit {p : Jo → Bool} {J : List Jo} {k : Nat} (hk : k < J.length) (he : p (J.getD k j0) = true) (hno : ∀ j, j < k → p (J.getD j j0) = false) : jidx p J = k := by
  have h : J.findIdx? p = some k := by
    rw [List.findIdx?_eq_some_iff_getElem]
    refine ⟨hk, ?_, ?_⟩
    · simpa [List.getD, hk] using he
    · intro j hj
      have := hno j hj
      simpa [List.getD, show j < J.length by omega] using this
  simp [jidx, h]
theorem jidx_miss {p : Jo → Bool} {J : List Jo} (hno : ∀ j, j < J.length → p (J.getD j j0) = false) : jidx p J = -1 := by
  have h : J.findIdx? p = none := by
    rw [List.findIdx?_eq_none_iff]
    intro y hy
    obtain ⟨j, hj, rfl⟩ := List.getElem_of_mem hy
    simpa [List.getD, hj] using hno j hj
  simp [jidx, h]

set_option maxHeartbeats 4000000 in
theorem indexFunc_any (q0 : Option Addr) (cap : Nat) (kb tb : Nat) (p : Jo → Bool) (J : List Jo) (w : World) (hlen : J.length ≤ 1024)
    (hrow : ∀ q, q < J.length → ∃ g, q0 = some ⟨g, 0, none⟩ ∧ JAt w g q (J.getD q j0))
    (hp : ∀ W' j, Below w.heap.size w W' → Calls Yba.prog 30 #[jv j, .pointer (some ⟨kb, 0, none⟩), .pointer (some ⟨tb, 0, none⟩)] W' fun e w' => e = .returned (.bool (p j)) ∧ Below W'.heap.size W' w') :
    Calls Yba.prog 33 #[.slice q0 J.length cap, .func (.func 30) #[] #[.pointer (some ⟨kb, 0, none⟩), .pointer (some ⟨tb, 0, none⟩)]] w fun e w' => e = .returned (.int .i64 (jidx p J)) ∧ Below w.heap.size w w' := by
  have hl : (J.length : Int) ≤ 1024 := by omega
  go_enter Yba.func33, Yba.ntmps33
  go_wp2_with fail
  go_loopw [8] (fun si wr => ∃ k : Nat, k ≤ J.length ∧ si = .int .i64 k ∧ Below w.heap.size w wr ∧ ∀ j, j < k → p (J.getD j j0) = false) (fun si _ => (J.length - intOf si).toNat)
  case atStart => exact ⟨0, by omega, rfl, Below.refl _ _, fun j hj => absurd hj (Nat.not_lt_zero _)⟩
  case round =>
    obtain ⟨k, hk, rfl, hB, hno⟩ := hrel
    have HN : Hid _ := hno
    have HB : Hid _ := hB
    clear hno
    by_cases hlt : k < J.length
    · obtain ⟨g, rfl, hj⟩ := hrow k hlt
      have hj2 := hj.of_block (hB.block g (World.block_lt_of_cell? _ _ hj.c0))
      obtain ⟨d0, d1, d2⟩ := hj2
      have HP := hp wr (J.getD k j0) hB
      by_cases he : p (J.getD k j0) = true
      · have HI : Hid (jidx p J = k) := jidx_hit hlt he HN.out
        rw [he] at HP
        generalize J.getD k j0 = jo at *
        obtain ⟨jid, jcn, jag⟩ := jo
        unfold jv at HP
        dsimp only at d0 d1 d2 HP
        clear hB hj hrow hp he
        go_wp2_with (go_at_call 30; refine HP.mono ?_; rintro e w' ⟨rfl, hb'⟩)
        go_ret
        exact ⟨by rw [HI.out]; rfl, bs_call HB.out hb'⟩
      · have hef : p (J.getD k j0) = false := by simpa using he
        have HE : Hid _ := hef
        rw [hef] at HP
        obtain ⟨jo, hjo⟩ : ∃ jo, jo = J.getD k j0 := ⟨_, rfl⟩
        rw [← hjo] at d0 d1 d2 HP
        obtain ⟨jid, jcn, jag⟩ := jo
        unfold jv at HP
        dsimp only at d0 d1 d2 HP
        clear hB hj hrow hp he hef hjo
        go_wp2_with (go_at_call 30; refine HP.mono ?_; rintro e w' ⟨rfl, hb'⟩)
        go_roundw
        case rel => exact ⟨k + 1, by omega, by go_num, bs_call HB.out hb', fun j hj => by
          rcases Nat.lt_succ_iff_lt_or_eq.1 hj with h | rfl
          · exact HN.out j h
          · exact HE.out⟩
        case measure => simp [intOf]; omega
    · obtain rfl : k = J.length := by omega
      have HI : Hid (jidx p J = -1) := jidx_miss HN.out
      clear hrow hp hB
      go_wp2_with fail
      go_ret
      exact ⟨by rw [HI.out]; rfl, HB.out⟩
end Go.Proofs.Ybulkclso
