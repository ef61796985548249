import Derived.Test.YbulkclsoFmtPlac
namespace Go.Proofs.YbulkclsoFmt
open Go.RowKit

set_option maxHeartbeats 2000000 in
theorem position_any (last h k0 k1 k2 k3 x m : Nat) (hh : h ≤ 32) (hx : x < 2 ^ h * 2 ^ h) (w : World)
    (b0 : k0 < 18446744073709551616) (b1 : k1 < 18446744073709551616) (b2 : k2 < 18446744073709551616) (b3 : k3 < 18446744073709551616)
    (hm : Fei.iter (Fei.E (gN h) h [k0, k1, k2, k3]) (m + 1) x ≤ last) (hj : ∀ j, j < m → last < Fei.iter (Fei.E (gN h) h [k0, k1, k2, k3]) (j + 1) x) :
    Calls Ybaf.prog 8 #[pl (.int .i64 1) (.int .u64 last) (.int .u8 2) h k0 k1 k2 k3, .int .u64 x] w fun e w' =>
      e = .returned (.int .u64 (Fei.iter (Fei.E (gN h) h [k0, k1, k2, k3]) (m + 1) x)) ∧ Below w.heap.size w w' := by
  have KW := fun W => walk_enc (.int .i64 1) (.int .u8 2) last h k0 k1 k2 k3 x m hh hx W b0 b1 b2 b3 hm hj
  clear hm hj hh hx b0 b1 b2 b3
  have hmf : ∀ (fn : Fn) (first cap : Array Value) (w : World), (Instr.makeFunc fn first cap).run Ybaf.prog w = .ok (.func fn first cap) w := fun _ _ _ _ => rfl
  generalize Fei.iter (Fei.E (gN h) h [k0, k1, k2, k3]) (m + 1) x = res at *
  unfold pl at *
  go_enter Ybaf.func8, Ybaf.ntmps8
  go_wp2_with fail
  refine (KW _).mono ?_
  rintro e wa ⟨rfl, hba⟩
  go_wp2_with fail
  go_ret
  exact ⟨rfl, ((Below.refl _ _).alloc (Nat.le_refl _) _).trans (hba.mono (by simp))⟩

set_option maxHeartbeats 2000000 in
theorem member_any (last h k0 k1 k2 k3 x m : Nat) (hh : h ≤ 32) (hx : x < 2 ^ h * 2 ^ h) (w : World)
    (b0 : k0 < 18446744073709551616) (b1 : k1 < 18446744073709551616) (b2 : k2 < 18446744073709551616) (b3 : k3 < 18446744073709551616)
    (hm : Fei.iter (Fei.D (gN h) h [k0, k1, k2, k3]) (m + 1) x ≤ last) (hj : ∀ j, j < m → last < Fei.iter (Fei.D (gN h) h [k0, k1, k2, k3]) (j + 1) x) :
    Calls Ybaf.prog 9 #[pl (.int .i64 1) (.int .u64 last) (.int .u8 2) h k0 k1 k2 k3, .int .u64 x] w fun e w' =>
      e = .returned (.int .u64 (Fei.iter (Fei.D (gN h) h [k0, k1, k2, k3]) (m + 1) x)) ∧ Below w.heap.size w w' := by
  have KW := fun W => walk_dec (.int .i64 1) (.int .u8 2) last h k0 k1 k2 k3 x m hh hx W b0 b1 b2 b3 hm hj
  clear hm hj hh hx b0 b1 b2 b3
  have hmf : ∀ (fn : Fn) (first cap : Array Value) (w : World), (Instr.makeFunc fn first cap).run Ybaf.prog w = .ok (.func fn first cap) w := fun _ _ _ _ => rfl
  generalize Fei.iter (Fei.D (gN h) h [k0, k1, k2, k3]) (m + 1) x = res at *
  unfold pl at *
  go_enter Ybaf.func9, Ybaf.ntmps9
  go_wp2_with fail
  refine (KW _).mono ?_
  rintro e wa ⟨rfl, hba⟩
  go_wp2_with fail
  go_ret
  exact ⟨rfl, ((Below.refl _ _).alloc (Nat.le_refl _) _).trans (hba.mono (by simp))⟩


theorem cellB {w w' : World} {a : Addr} {v : Value} (hb : Below w.heap.size w w') (hc : w.cell? a = some v) : w'.cell? a = some v := (hb.cell (World.block_lt_of_cell? w a hc)).trans hc

/-- forth, back, Position and Member, of one placement and one member x -/
theorem four (last h k0 k1 k2 k3 x : Nat) (hh : h ≤ 32) (hlt : last < 2 ^ h * 2 ^ h) (hx : x ≤ last)
    (b0 : k0 < 18446744073709551616) (b1 : k1 < 18446744073709551616) (b2 : k2 < 18446744073709551616) (b3 : k3 < 18446744073709551616) :
    ∃ pos : Nat, pos ≤ last ∧
      (∀ W : World, Calls Ybaf.prog 5 #[pl (.int .i64 1) (.int .u64 last) (.int .u8 2) h k0 k1 k2 k3, .int .u64 x, .func (.func 6) #[pl (.int .i64 1) (.int .u64 last) (.int .u8 2) h k0 k1 k2 k3] #[]] W fun e w' => e = .returned (.int .u64 pos) ∧ Below W.heap.size W w') ∧
      (∀ W : World, Calls Ybaf.prog 5 #[pl (.int .i64 1) (.int .u64 last) (.int .u8 2) h k0 k1 k2 k3, .int .u64 pos, .func (.func 7) #[pl (.int .i64 1) (.int .u64 last) (.int .u8 2) h k0 k1 k2 k3] #[]] W fun e w' => e = .returned (.int .u64 x) ∧ Below W.heap.size W w') ∧
      (∀ W : World, Calls Ybaf.prog 8 #[pl (.int .i64 1) (.int .u64 last) (.int .u8 2) h k0 k1 k2 k3, .int .u64 x] W fun e w' => e = .returned (.int .u64 pos) ∧ Below W.heap.size W w') ∧
      (∀ W : World, Calls Ybaf.prog 9 #[pl (.int .i64 1) (.int .u64 last) (.int .u8 2) h k0 k1 k2 k3, .int .u64 pos] W fun e w' => e = .returned (.int .u64 x) ∧ Below W.heap.size W w') := by
  have hxM : x < 2 ^ h * 2 ^ h := by omega
  have hf : ∀ y, y < 2 ^ h * 2 ^ h → Fei.E (gN h) h [k0, k1, k2, k3] y < 2 ^ h * 2 ^ h := fun y hy => Fei.E_lt (gN_lt h) _ hy
  have hd : ∀ y, y < 2 ^ h * 2 ^ h → Fei.D (gN h) h [k0, k1, k2, k3] (Fei.E (gN h) h [k0, k1, k2, k3] y) = y := fun y hy => Fei.D_E (gN_lt h) _ hy
  obtain ⟨m, h1, h2⟩ := Fei.forth hf hd hxM hx
  have hpM := Fei.iter_lt hf hxM (m + 1)
  have hback := Fei.back_step hf hd hxM (m + 1)
  have e1 : Fei.iter (Fei.D (gN h) h [k0, k1, k2, k3]) (m + 1) (Fei.iter (Fei.E (gN h) h [k0, k1, k2, k3]) (m + 1) x) = x := by
    rw [hback (m + 1) (Nat.le_refl _), Nat.sub_self]; rfl
  have h3 : Fei.iter (Fei.D (gN h) h [k0, k1, k2, k3]) (m + 1) (Fei.iter (Fei.E (gN h) h [k0, k1, k2, k3]) (m + 1) x) ≤ last := by rw [e1]; exact hx
  have h4 : ∀ j, j < m → last < Fei.iter (Fei.D (gN h) h [k0, k1, k2, k3]) (j + 1) (Fei.iter (Fei.E (gN h) h [k0, k1, k2, k3]) (m + 1) x) := by
    intro j hj
    rw [hback (j + 1) (by omega), show m + 1 - (j + 1) = (m - j - 1) + 1 by omega]
    exact h2 _ (by omega)
  refine ⟨_, h1, fun W => walk_enc _ _ last h k0 k1 k2 k3 x m hh hxM W b0 b1 b2 b3 h1 h2, fun W => ?_, fun W => position_any last h k0 k1 k2 k3 x m hh hxM W b0 b1 b2 b3 h1 h2, fun W => ?_⟩
  · have := walk_dec (.int .i64 1) (.int .u8 2) last h k0 k1 k2 k3 _ m hh hpM W b0 b1 b2 b3 h3 h4
    rwa [e1] at this
  · have := member_any last h k0 k1 k2 k3 _ m hh hpM W b0 b1 b2 b3 h3 h4
    rwa [e1] at this

set_option maxHeartbeats 4000000 in
theorem law_mod (last seed id : Nat) (hl : last < 18446744073709551616) (hmax : ¬ last = 18446744073709551615) (w : World) :
    Calls Ybaf.prog 3 #[.int .u64 last, .int .u64 seed, .int .u64 id] w fun e w' => e = .returned (.bool true) ∧ Below w.heap.size w w' := by
  have hmf : ∀ (fn : Fn) (first cap : Array Value) (w : World), (Instr.makeFunc fn first cap).run Ybaf.prog w = .ok (.func fn first cap) w := fun _ _ _ _ => rfl
  obtain ⟨hh, hlt, _⟩ := half_facts hl
  obtain ⟨x, hx⟩ : ∃ x, x = id % (last + 1) := ⟨_, rfl⟩
  have hxl : x ≤ last := by rw [hx]; have := Nat.mod_lt id (show 0 < last + 1 by omega); omega
  have hmod : (id : Int) % ((last : Int) + 1) = (x : Int) := by rw [hx]; simp
  have hmx : ((last : Int) != 18446744073709551615) = true := by simp; omega
  clear hx
  go_enter Ybaf.func3, Ybaf.ntmps3
  go_wp2_with fail
  refine (placements_any last seed hl _).mono ?_
  rintro e w1 ⟨g, rfl, hP, hb1⟩
  obtain ⟨p0, p1, p2, p3, p4, p5, p6, p7⟩ := hP
  obtain ⟨pos, hpos, KE, KD, KP, KM⟩ := four last ((Lib.bitLen last + 1) / 2) (key seed 0) (key seed 1) (key seed 2) (key seed 3) x hh hlt hxl (key_lt _ _) (key_lt _ _) (key_lt _ _) (key_lt _ _)
  clear hh hlt
  generalize key seed 0 = k0 at *
  generalize key seed 1 = k1 at *
  generalize key seed 2 = k2 at *
  generalize key seed 3 = k3 at *
  generalize (Lib.bitLen last + 1) / 2 = h at *
  unfold pl at KE KD KP KM
  go_wp2_with fail
  have g0 : (w1.alloc (.cells #[.int .i64 1, .int .u64 last, .int .u8 2, .int .u64 h, .int .u64 k0, .int .u64 k1, .int .u64 k2, .int .u64 k3] 36)).cell? ⟨w1.heap.size, 0, none⟩ = some (.int .i64 1) := by simp
  have g1 : (w1.alloc (.cells #[.int .i64 1, .int .u64 last, .int .u8 2, .int .u64 h, .int .u64 k0, .int .u64 k1, .int .u64 k2, .int .u64 k3] 36)).cell? ⟨w1.heap.size, 1, none⟩ = some (.int .u64 last) := by simp
  have g2 : (w1.alloc (.cells #[.int .i64 1, .int .u64 last, .int .u8 2, .int .u64 h, .int .u64 k0, .int .u64 k1, .int .u64 k2, .int .u64 k3] 36)).cell? ⟨w1.heap.size, 2, none⟩ = some (.int .u8 2) := by simp
  have g3 : (w1.alloc (.cells #[.int .i64 1, .int .u64 last, .int .u8 2, .int .u64 h, .int .u64 k0, .int .u64 k1, .int .u64 k2, .int .u64 k3] 36)).cell? ⟨w1.heap.size, 3, none⟩ = some (.int .u64 h) := by simp
  have g4 : (w1.alloc (.cells #[.int .i64 1, .int .u64 last, .int .u8 2, .int .u64 h, .int .u64 k0, .int .u64 k1, .int .u64 k2, .int .u64 k3] 36)).cell? ⟨w1.heap.size, 4, none⟩ = some (.int .u64 k0) := by simp
  have g5 : (w1.alloc (.cells #[.int .i64 1, .int .u64 last, .int .u8 2, .int .u64 h, .int .u64 k0, .int .u64 k1, .int .u64 k2, .int .u64 k3] 36)).cell? ⟨w1.heap.size, 5, none⟩ = some (.int .u64 k1) := by simp
  have g6 : (w1.alloc (.cells #[.int .i64 1, .int .u64 last, .int .u8 2, .int .u64 h, .int .u64 k0, .int .u64 k1, .int .u64 k2, .int .u64 k3] 36)).cell? ⟨w1.heap.size, 6, none⟩ = some (.int .u64 k2) := by simp
  have g7 : (w1.alloc (.cells #[.int .i64 1, .int .u64 last, .int .u8 2, .int .u64 h, .int .u64 k0, .int .u64 k1, .int .u64 k2, .int .u64 k3] 36)).cell? ⟨w1.heap.size, 7, none⟩ = some (.int .u64 k3) := by simp
  have hbA : Below w.heap.size w (w1.alloc (.cells #[.int .i64 1, .int .u64 last, .int .u8 2, .int .u64 h, .int .u64 k0, .int .u64 k1, .int .u64 k2, .int .u64 k3] 36)) := hb1.alloc hb1.size _
  clear p0 p1 p2 p3 p4 p5 p6 p7 hb1
  generalize w1.alloc (.cells #[.int .i64 1, .int .u64 last, .int .u8 2, .int .u64 h, .int .u64 k0, .int .u64 k1, .int .u64 k2, .int .u64 k3] 36) = wA at *
  refine (KE _).mono ?_
  rintro e wB ⟨rfl, hbB⟩
  have e0 := cellB hbB g0
  have e1 := cellB hbB g1
  have e2 := cellB hbB g2
  have e3 := cellB hbB g3
  have e4 := cellB hbB g4
  have e5 := cellB hbB g5
  have e6 := cellB hbB g6
  have e7 := cellB hbB g7
  have hbC : Below w.heap.size w wB := hbA.trans (hbB.mono hbA.size)
  clear g0 g1 g2 g3 g4 g5 g6 g7 hbB hbA KE
  have hposI : ¬ (last : Int) < (pos : Int) := by omega
  go_wp2_with fail
  refine (KD _).mono ?_
  rintro e wC ⟨rfl, hbD⟩
  have f0 := cellB hbD e0
  have f1 := cellB hbD e1
  have f2 := cellB hbD e2
  have f3 := cellB hbD e3
  have f4 := cellB hbD e4
  have f5 := cellB hbD e5
  have f6 := cellB hbD e6
  have f7 := cellB hbD e7
  have hbE : Below w.heap.size w wC := hbC.trans (hbD.mono hbC.size)
  clear e0 e1 e2 e3 e4 e5 e6 e7 hbD hbC KD
  go_wp2_with fail
  refine (KP _).mono ?_
  rintro e wD ⟨rfl, hbF⟩
  have q0 := cellB hbF f0
  have q1 := cellB hbF f1
  have q2 := cellB hbF f2
  have q3 := cellB hbF f3
  have q4 := cellB hbF f4
  have q5 := cellB hbF f5
  have q6 := cellB hbF f6
  have q7 := cellB hbF f7
  have hbG : Below w.heap.size w wD := hbE.trans (hbF.mono hbE.size)
  clear f0 f1 f2 f3 f4 f5 f6 f7 hbF hbE KP
  go_wp2_with fail
  refine (KM _).mono ?_
  rintro e wE ⟨rfl, hbH⟩
  go_wp2_with fail
  go_ret
  exact ⟨by simp, hbG.trans (hbH.mono hbG.size)⟩

set_option maxHeartbeats 4000000 in
theorem law_max (last seed id : Nat) (hl : last < 18446744073709551616) (hmax : last = 18446744073709551615) (hi : id < 18446744073709551616) (w : World) :
    Calls Ybaf.prog 3 #[.int .u64 last, .int .u64 seed, .int .u64 id] w fun e w' => e = .returned (.bool true) ∧ Below w.heap.size w w' := by
  have hmf : ∀ (fn : Fn) (first cap : Array Value) (w : World), (Instr.makeFunc fn first cap).run Ybaf.prog w = .ok (.func fn first cap) w := fun _ _ _ _ => rfl
  obtain ⟨hh, hlt, _⟩ := half_facts hl
  have hxl : id ≤ last := by omega
  have hmx : ((last : Int) != 18446744073709551615) = false := by simp; omega
  clear hmax hi
  go_enter Ybaf.func3, Ybaf.ntmps3
  go_wp2_with fail
  refine (placements_any last seed hl _).mono ?_
  rintro e w1 ⟨g, rfl, hP, hb1⟩
  obtain ⟨p0, p1, p2, p3, p4, p5, p6, p7⟩ := hP
  obtain ⟨pos, hpos, KE, KD, KP, KM⟩ := four last ((Lib.bitLen last + 1) / 2) (key seed 0) (key seed 1) (key seed 2) (key seed 3) id hh hlt hxl (key_lt _ _) (key_lt _ _) (key_lt _ _) (key_lt _ _)
  clear hh hlt
  generalize key seed 0 = k0 at *
  generalize key seed 1 = k1 at *
  generalize key seed 2 = k2 at *
  generalize key seed 3 = k3 at *
  generalize (Lib.bitLen last + 1) / 2 = h at *
  unfold pl at KE KD KP KM
  go_wp2_with fail
  have g0 : (w1.alloc (.cells #[.int .i64 1, .int .u64 last, .int .u8 2, .int .u64 h, .int .u64 k0, .int .u64 k1, .int .u64 k2, .int .u64 k3] 36)).cell? ⟨w1.heap.size, 0, none⟩ = some (.int .i64 1) := by simp
  have g1 : (w1.alloc (.cells #[.int .i64 1, .int .u64 last, .int .u8 2, .int .u64 h, .int .u64 k0, .int .u64 k1, .int .u64 k2, .int .u64 k3] 36)).cell? ⟨w1.heap.size, 1, none⟩ = some (.int .u64 last) := by simp
  have g2 : (w1.alloc (.cells #[.int .i64 1, .int .u64 last, .int .u8 2, .int .u64 h, .int .u64 k0, .int .u64 k1, .int .u64 k2, .int .u64 k3] 36)).cell? ⟨w1.heap.size, 2, none⟩ = some (.int .u8 2) := by simp
  have g3 : (w1.alloc (.cells #[.int .i64 1, .int .u64 last, .int .u8 2, .int .u64 h, .int .u64 k0, .int .u64 k1, .int .u64 k2, .int .u64 k3] 36)).cell? ⟨w1.heap.size, 3, none⟩ = some (.int .u64 h) := by simp
  have g4 : (w1.alloc (.cells #[.int .i64 1, .int .u64 last, .int .u8 2, .int .u64 h, .int .u64 k0, .int .u64 k1, .int .u64 k2, .int .u64 k3] 36)).cell? ⟨w1.heap.size, 4, none⟩ = some (.int .u64 k0) := by simp
  have g5 : (w1.alloc (.cells #[.int .i64 1, .int .u64 last, .int .u8 2, .int .u64 h, .int .u64 k0, .int .u64 k1, .int .u64 k2, .int .u64 k3] 36)).cell? ⟨w1.heap.size, 5, none⟩ = some (.int .u64 k1) := by simp
  have g6 : (w1.alloc (.cells #[.int .i64 1, .int .u64 last, .int .u8 2, .int .u64 h, .int .u64 k0, .int .u64 k1, .int .u64 k2, .int .u64 k3] 36)).cell? ⟨w1.heap.size, 6, none⟩ = some (.int .u64 k2) := by simp
  have g7 : (w1.alloc (.cells #[.int .i64 1, .int .u64 last, .int .u8 2, .int .u64 h, .int .u64 k0, .int .u64 k1, .int .u64 k2, .int .u64 k3] 36)).cell? ⟨w1.heap.size, 7, none⟩ = some (.int .u64 k3) := by simp
  have hbA : Below w.heap.size w (w1.alloc (.cells #[.int .i64 1, .int .u64 last, .int .u8 2, .int .u64 h, .int .u64 k0, .int .u64 k1, .int .u64 k2, .int .u64 k3] 36)) := hb1.alloc hb1.size _
  clear p0 p1 p2 p3 p4 p5 p6 p7 hb1
  generalize w1.alloc (.cells #[.int .i64 1, .int .u64 last, .int .u8 2, .int .u64 h, .int .u64 k0, .int .u64 k1, .int .u64 k2, .int .u64 k3] 36) = wA at *
  refine (KE _).mono ?_
  rintro e wB ⟨rfl, hbB⟩
  have e0 := cellB hbB g0
  have e1 := cellB hbB g1
  have e2 := cellB hbB g2
  have e3 := cellB hbB g3
  have e4 := cellB hbB g4
  have e5 := cellB hbB g5
  have e6 := cellB hbB g6
  have e7 := cellB hbB g7
  have hbC : Below w.heap.size w wB := hbA.trans (hbB.mono hbA.size)
  clear g0 g1 g2 g3 g4 g5 g6 g7 hbB hbA KE
  have hposI : ¬ (last : Int) < (pos : Int) := by omega
  go_wp2_with fail
  refine (KD _).mono ?_
  rintro e wC ⟨rfl, hbD⟩
  have f0 := cellB hbD e0
  have f1 := cellB hbD e1
  have f2 := cellB hbD e2
  have f3 := cellB hbD e3
  have f4 := cellB hbD e4
  have f5 := cellB hbD e5
  have f6 := cellB hbD e6
  have f7 := cellB hbD e7
  have hbE : Below w.heap.size w wC := hbC.trans (hbD.mono hbC.size)
  clear e0 e1 e2 e3 e4 e5 e6 e7 hbD hbC KD
  go_wp2_with fail
  refine (KP _).mono ?_
  rintro e wD ⟨rfl, hbF⟩
  have q0 := cellB hbF f0
  have q1 := cellB hbF f1
  have q2 := cellB hbF f2
  have q3 := cellB hbF f3
  have q4 := cellB hbF f4
  have q5 := cellB hbF f5
  have q6 := cellB hbF f6
  have q7 := cellB hbF f7
  have hbG : Below w.heap.size w wD := hbE.trans (hbF.mono hbE.size)
  clear f0 f1 f2 f3 f4 f5 f6 f7 hbF hbE KP
  go_wp2_with fail
  refine (KM _).mono ?_
  rintro e wE ⟨rfl, hbH⟩
  go_wp2_with fail
  go_ret
  exact ⟨by simp, hbG.trans (hbH.mono hbG.size)⟩

end Go.Proofs.YbulkclsoFmt
