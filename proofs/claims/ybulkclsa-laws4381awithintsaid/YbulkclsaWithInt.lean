import Derived.Test.YbulkclsaModelProof
import Derived.Test.YbulkclsaZint
namespace Go.Proofs.Ybulkclsa
open Go.ChangeShapes Go.WideShapes Go.ChangeAt Go.RowKit Go.Joins
set_option linter.unusedVariables false

theorem ndig : ∀ u : Nat, ∃ E, 1 ≤ E ∧ (E = 1 ∨ 10 ^ (E - 1) ≤ u) ∧ u < 10 ^ E := by
  intro u
  induction u using Nat.strongRecOn with
  | _ u ih =>
    by_cases h : u < 10
    · exact ⟨1, Nat.le_refl _, Or.inl rfl, by simpa using h⟩
    · obtain ⟨E, h1, h2, h3⟩ := ih (u / 10) (by omega)
      refine ⟨E + 1, by omega, Or.inr ?_, by rw [Nat.pow_succ]; omega⟩
      rw [Nat.add_sub_cancel]
      rcases h2 with rfl | h2
      · simpa using Nat.le_of_not_lt h
      · obtain ⟨E, rfl⟩ : ∃ k, E = k + 1 := ⟨E - 1, by omega⟩
        rw [Nat.add_sub_cancel] at h2
        rw [Nat.pow_succ]; omega

theorem ndig19 {u : Nat} (hu : u ≤ 9223372036854775808) : ∃ E, 1 ≤ E ∧ E ≤ 19 ∧ (E = 1 ∨ 10 ^ (E - 1) ≤ u) ∧ u < 10 ^ E := by
  obtain ⟨E, h1, h2, h3⟩ := ndig u
  refine ⟨E, h1, ?_, h2, h3⟩
  apply Nat.le_of_not_lt
  intro h
  rcases h2 with h2 | h2
  · omega
  · have : 10 ^ 19 ≤ 10 ^ (E - 1) := Nat.pow_le_pow_right (by decide) (by omega)
    have h19 : (10 : Nat) ^ 19 = 10000000000000000000 := by decide
    omega

theorem mdl_three (s1 e1 : Int) (d1 : List UInt8) (s2 e2 : Int) (d2 : List UInt8) : -1 ≤ mdl s1 e1 d1 s2 e2 d2 ∧ mdl s1 e1 d1 s2 e2 d2 ≤ 1 := by
  have hm : -1 ≤ mag e1 d1 e2 d2 ∧ mag e1 d1 e2 d2 ≤ 1 := by
    unfold mag; split
    · have := cb_three d1 d2; omega
    · have := ci_three e1 e2; omega
  unfold mdl
  split
  · split
    · omega
    · split <;> omega
  · have := ci_three s1 s2; omega

theorem zint_all (i : Int) (hr1 : -9223372036854775808 ≤ i) (hr2 : i ≤ 9223372036854775807) (E u : Nat) (hE : 1 ≤ E) (hE19 : E ≤ 19) (hlo : E = 1 ∨ 10 ^ (E - 1) ≤ u) (hhi : u < 10 ^ E) (hu : (i.natAbs : Int) = u) (w : World) :
    Calls Yba.prog 9 #[.int .i64 i] w fun r w' => ∃ (s1 e1 : Int) (S : ByteArray),
      (∀ (n2 : Bool) (e2 : Int) (d2 : List UInt8), Digs d2 → ¬ IsI n2 d2 e2 → cnID i E u n2 e2 d2 = mdl s1 e1 S.data.toList (sg n2) e2 d2) ∧
      r = .returned (.tuple #[.int .i64 s1, .int .i64 e1, .string S]) ∧ Below w.heap.size w w' := by
  by_cases h0 : i = 0
  · subst h0
    refine (zint_zero w).mono ?_
    rintro r w' ⟨rfl, rfl⟩
    refine ⟨0, 0, ⟨#[]⟩, fun n2 e2 d2 _ _ => ?_, rfl, Below.refl _ _⟩
    have h1 : Lib.compareInt 0 0 = 0 := ci_self 0
    have h2 : ¬ (0 : Int) = sg n2 := by cases n2 <;> decide
    unfold cnID mdl
    rw [h1, if_neg h2, if_neg h2]
  · have hlo' : 10 ^ (E - 1) ≤ u := by
      rcases hlo with rfl | h
      · simp; omega
      · exact h
    refine (zint_any i E u hE hE19 hlo' hhi hu (by omega) h0 w).mono ?_
    rintro r w' ⟨S, hD, hS, hip, rfl, hb⟩
    refine ⟨sgI i, E, S, fun n2 e2 d2 hd2 hn2 => ?_, rfl, hb⟩
    have hl : S.data.toList.length ≤ E := by simpa using hS
    by_cases hn : i < 0
    · have e1 : sgn true u = i := by simp [sgn]; omega
      have e2' : sg true = sgI i := by simp [sg, sgI, hn]
      have := cnID_mdl (n1 := true) (n2 := n2) (e2 := e2) hD hd2 hl hE19 hip (by show u ≤ 9223372036854775808; omega) (by omega) hn2
      rwa [e1, e2'] at this
    · have e1 : sgn false u = i := by simp [sgn]; omega
      have e2' : sg false = sgI i := by simp [sg, sgI, hn]
      have := cnID_mdl (n1 := false) (n2 := n2) (e2 := e2) hD hd2 hl hE19 hip (by show u ≤ 9223372036854775807; omega) (by omega) hn2
      rwa [e1, e2'] at this

set_option maxHeartbeats 1000000 in
theorem withint_long (i : Int) (n2 : Bool) (a2 : Option Addr) (len2 cap2 : Nat) (e2 : Int) (w : World) (h : 1024 < len2) :
    Calls Yba.prog 4 #[.int .i64 i, .agg #[.bool n2, .slice a2 len2 cap2, .int .i64 e2]] w fun e w' => e = .returned (.bool true) ∧ Below w.heap.size w w' := by
  have h' : (1024 : Int) < len2 := by omega
  go_enter Yba.func4, Yba.ntmps4
  go_wp2_with fail
  go_ret
  exact ⟨rfl, (Below.refl _ _).alloc (Nat.le_refl _) _⟩

theorem keepCell {w w' : World} {b o : Nat} {v : Value} (h : w.cell? ⟨b, o, none⟩ = some v) (hb : Below w.heap.size w w') : w'.cell? ⟨b, o, none⟩ = some v :=
  (hb.cell (World.block_lt_of_cell? _ _ h)).trans h
theorem IsVal.keep {w w' : World} {b : Nat} {k : Int} {neg : Bool} {n : Int} {s : ByteArray} (h : IsVal w b k neg n s) (hb : Below w.heap.size w w') : IsVal w' b k neg n s :=
  ⟨keepCell h.c0 hb, keepCell h.c1 hb, keepCell h.c2 hb, keepCell h.c3 hb⟩

set_option maxHeartbeats 4000000 in
theorem withint_short (i : Int) (hr1 : -9223372036854775808 ≤ i) (hr2 : i ≤ 9223372036854775807) (n2 : Bool) (a2 : Option Addr) (len2 cap2 : Nat) (z2 : List Int) (e2 : Int) (w : World) (h2 : len2 ≤ 1024) (r2 : Row w a2 len2 z2) :
    Calls Yba.prog 4 #[.int .i64 i, .agg #[.bool n2, .slice a2 len2 cap2, .int .i64 e2]] w fun e w' => e = .returned (.bool true) ∧ Below w.heap.size w w' := by
  obtain ⟨E, q1, q2, q3, q4⟩ := ndig19 (u := i.natAbs) (by omega)
  have ZI := zint_all i hr1 hr2 E i.natAbs q1 q2 q3 q4 rfl
  have CI := fun w bx bz nx nz ez dx dz hx hz hs hD => cn_id w bx bz nx nz i ez dx dz hx hz hs hD E i.natAbs q1 q2 q3 q4 rfl (by omega)
  have CD := fun w bx bz nx nz ez dx dz hx hz hs hD => cn_di w bx bz nx nz i ez dx dz hx hz hs hD E i.natAbs q1 q2 q3 q4 rfl (by omega)
  clear q1 q2 q3 q4
  generalize i.natAbs = u at *
  have h2' : ¬ (1024 : Int) < len2 := by omega
  have hb0 : Below w.heap.size w (w.alloc (.cells #[.bool n2, .slice a2 len2 cap2, .int .i64 e2] 24)) := (Below.refl _ _).alloc (Nat.le_refl _) _
  go_enter Yba.func4, Yba.ntmps4
  go_wp2_with fail
  refine (int_any _ i).mono ?_
  rintro r wi ⟨rfl, hbi⟩
  have hbw : Below w.heap.size w wi := hb0.trans (hbi.mono (by simp))
  have d0 : wi.cell? ⟨w.heap.size, 0, none⟩ = some (.bool n2) := by rw [hbi.cell (p := ⟨w.heap.size, 0, none⟩) (by simp)]; simp
  have d1 : wi.cell? ⟨w.heap.size, 1, none⟩ = some (.slice a2 len2 cap2) := by rw [hbi.cell (p := ⟨w.heap.size, 1, none⟩) (by simp)]; simp
  have d2 : wi.cell? ⟨w.heap.size, 2, none⟩ = some (.int .i64 e2) := by rw [hbi.cell (p := ⟨w.heap.size, 2, none⟩) (by simp)]; simp
  have hsz : w.heap.size < wi.heap.size := by have := hbi.size; simp at this; omega
  clear hbi hb0 h2'
  go_wp2_with fail
  have hbA : Below w.heap.size w (wi.alloc (.cells #[.int .u8 1, .bool false, .int .i64 i, .string ⟨#[]⟩, .pointer none] 28)) := hbw.alloc hbw.size _
  have hX0 : IsVal (wi.alloc (.cells #[.int .u8 1, .bool false, .int .i64 i, .string ⟨#[]⟩, .pointer none] 28)) wi.heap.size 1 false i ⟨#[]⟩ := ⟨by simp, by simp, by simp, by simp⟩
  have rb := r2.keep hbA
  refine (build_any n2 a2 len2 cap2 e2 z2 rb.len_eq h2 rb.range _ rb.row).mono ?_
  rintro r wb ⟨s2, V2, hw2, hs2, hV2, rfl, hbb⟩
  have hbW : Below w.heap.size w wb := hbA.trans (hbb.mono (by simp; omega))
  have hX1 := hX0.keep hbb
  have hsb : wi.heap.size < wb.heap.size := by have := hbb.size; simp at this; omega
  clear hbb rb r2 hbA hbw d0 d1 d2 hsz hX0
  obtain ⟨kd', ng', n', st', hVe, hU2⟩ := hV2.form
  subst hVe
  clear hV2
  have hX2 : IsVal (wb.alloc (.cells #[.int .u8 kd', .bool ng', .int .i64 n', .string st', .pointer none] 28)) wi.heap.size 1 false i ⟨#[]⟩ := hX1.keep ((Below.refl _ _).alloc (Nat.le_refl _) _)
  have hY2 : IsVal (wb.alloc (.cells #[.int .u8 kd', .bool ng', .int .i64 n', .string st', .pointer none] 28)) wb.heap.size kd' ng' n' st' := ⟨by simp, by simp, by simp, by simp⟩
  have hbF : Below w.heap.size w (wb.alloc (.cells #[.int .u8 kd', .bool ng', .int .i64 n', .string st', .pointer none] 28)) := hbW.alloc hbW.size _
  clear hX1
  rcases hU2 with ⟨hI2, rfl, rfl⟩ | ⟨hI2, rfl, rfl, rfl, rfl⟩
  · go_wp2_with fail
    go_ret
    exact ⟨rfl, hbF⟩
  · go_wp2_with fail
    refine (ZI _).mono ?_
    rintro r wz ⟨s1, e1, S, hEq, rfl, hbz⟩
    have hX := hX2.keep hbz
    have hY := hY2.keep hbz
    have hbz' : Below w.heap.size w wz := hbF.trans (hbz.mono hbF.size)
    clear hX2 hY2 hbz hbF hbW
    have hE := hEq _ _ _ hw2.digs hI2
    have hA := cnDI_anti i E u ng' n' st'.data.toList
    rw [hE] at hA
    have ⟨hm1, hm2⟩ := mdl_three s1 e1 S.data.toList (sg ng') n' st'.data.toList
    clear hEq ZI
    have HE : Hid _ := hE
    have HA : Hid _ := hA
    clear hE hA
    go_wp2_with (go_at_call 6; refine (model_any _ _ _ _ _ _ _).mono ?_; rintro e w' ⟨rfl, rfl⟩)
    generalize mdl s1 e1 S.data.toList (sg ng') n' st'.data.toList = M at *
    refine (CI _ _ _ _ _ _ _ _ hX hY (by omega) hw2.digs).mono ?_
    rintro e w' ⟨rfl, rfl⟩
    rw [HE.out]
    go_wp2_with fail
    refine (CD _ _ _ _ _ _ _ _ hX hY (by omega) hw2.digs).mono ?_
    rintro e w' ⟨rfl, rfl⟩
    rw [HA.out]
    go_wp2_with fail
    go_ret
    exact ⟨by simp, hbz'⟩

theorem walk4 (i : Int) (hr1 : -9223372036854775808 ≤ i) (hr2 : i ≤ 9223372036854775807) (n2 : Bool) (a2 : Option Addr) (len2 cap2 : Nat) (z2 : List Int) (e2 : Int) (w : World) (r2 : Row w a2 len2 z2) :
    Calls Yba.prog 4 #[.int .i64 i, .agg #[.bool n2, .slice a2 len2 cap2, .int .i64 e2]] w fun e w' => e = .returned (.bool true) ∧ Below w.heap.size w w' := by
  by_cases h2 : len2 ≤ 1024
  · exact withint_short i hr1 hr2 n2 a2 len2 cap2 z2 e2 w h2 r2
  · exact withint_long i n2 a2 len2 cap2 e2 w (by omega)

theorem wf_i64 {z : Int} (h : (Lit.int .i64 z).wf = true) : -9223372036854775808 ≤ z ∧ z ≤ 9223372036854775807 := by
  simp [Lit.wf, IntKind.min, IntKind.max, IntKind.signed, IntKind.bits] at h
  omega

namespace lawS4381AWithInt
set_option maxRecDepth 100000 in
theorem lifted (os : Os) (started : os.Started) (H : Type) (enc : TypeId × Value → H) :
    ReturnsInHanded {} Yba.checked os 4 .any (Rows.lawS4381AWithIntSpec.pre6 enc Yba.prog Yba.f4 Rows.lawS4381AWithIntRow.domain false) (Rows.lawS4381AWithIntSpec.post enc Yba.prog Yba.f4 false true false false) := by
  refine returnsInHanded_of_change (C := Yba.checked) own started (by kernel_rfl) Yba.func4
    (ChangeSpec.witness6 (enc := enc) (C := Yba.checked) false ⟨#[], #[.int .i64 0, .agg #[.bool false, .slice none 0 0, .int .i64 0]], []⟩ 8 (by kernel_rfl) (by kernel_rfl) (by kernel_rfl) (by kernel_rfl)) ?_
  intro W base args ds gs before hval0 hW hcnd _
  have hval : ∀ (j : Nat) t v, Yba.f4.params[j]? = some t → args[j]? = some v → Value.okWide Yba.prog W .any base t v := hval0
  have hW' := hW
  obtain ⟨p, q, hA0, hV, rfl, hfz, hnd⟩ := hW
  have hA : DataW.TrodAll enc Yba.prog W 0 (fun _ => true) true Yba.f4.params.toList args.toList ds p := hA0
  rw [Yba.params4] at hA hval
  obtain ⟨v0, vs0, d0, ds0, p0, q0, hargs, rfl, rfl, h0, r0⟩ := trodAll_cons hA
  obtain ⟨v1, vs1, d1, ds1, p1, q1, rfl, rfl, rfl, h1, r1⟩ := trodAll_cons r0
  obtain ⟨rfl, rfl, rfl⟩ := trodAll_nil r1
  obtain rfl : args = #[v0, v1] := by cases args; simp_all
  obtain ⟨rfl, rfl⟩ := trodVars_none hV
  have lt1 : ∀ x ∈ p1, x.block < W.heap.size := by obtain ⟨m, hm⟩ := h1; exact DataW.trod_lt m _ _ _ hm
  obtain ⟨a0, rfl, rfl, rfl, w0⟩ := open_int Yba.underlying2 (hval 0 2 v0 rfl rfl) h0
  obtain ⟨n2, a2, len2, cap2, e2, z2, hv2, w2⟩ := open_num (hval 1 24 v1 rfl rfl) h1
  clear hA0 hval0
  have hwalk : Calls Yba.prog 4 #[.int .i64 a0, v1] W (fun e w' => e = .returned (.bool true) ∧ Below W.heap.size W w') := by rw [hv2]; exact walk4 a0 (wf_i64 w0).1 (wf_i64 w0).2 n2 a2 len2 cap2 z2 e2 W w2
  refine hwalk.mono fun e W' ⟨he, bel⟩ => ?_
  subst he
  exact ⟨_, rfl, _, _, _, [], _, [], hW', trodAll_mk1 (shut_bool Yba.underlying4 _), (trodAll_cons_mk (shut_int Yba.underlying2 w0) (trodAll_cons_mk (Below.trod laidOut (by kernel_rfl) (of_decide_eq_true (by kernel_rfl)) h1 bel lt1) trodAll_mk0)), rfl, bel.frame _, fun h => by cases h⟩

theorem over : Rows.lawS4381AWithIntRow.holds Yba.pinned (OpenSpec.ofChange Rows.lawS4381AWithIntSpec) :=
  OpenClaim.holds_of_wide 4 Yba.f4 rfl rfl rfl rfl rfl rfl rfl ⟨rfl, rfl, rfl, rfl, rfl⟩ rfl rfl rfl rfl rfl (by kernel_rfl) Yba.func4 (by kernel_rfl)
    (of_decide_eq_true (by kernel_rfl)) (by unfold Func.isWrapper; first | (rw [if_pos (by decide +kernel)]; kernel_rfl) | (rw [if_neg (by decide +kernel)]; exact ⟨rfl, rfl⟩))
    (fun os started H enc _ => lifted os started H enc)
end lawS4381AWithInt

theorem lawS4381AWithInt_proved : Rows.LawS4381AWithIntSaid := lawS4381AWithInt.over
#print axioms lawS4381AWithInt_proved
end Go.Proofs.Ybulkclsa
