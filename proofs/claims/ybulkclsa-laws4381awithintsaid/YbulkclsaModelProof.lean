import Derived.Test.YbulkclsaModel
import Derived.Lib.SmallJoins
namespace Go.Proofs.Ybulkclsa
open Go.ChangeShapes Go.WideShapes Go.ChangeAt Go.RowKit Go.Joins
open Go.ChangeMaps (open_string shut_string)
set_option linter.unusedVariables false

theorem own : ownKnob Yba.prog.godebug = none := by kernel_rfl
theorem laidOut : laidOutB Yba.prog = true := by kernel_rfl
theorem Yba.cells24 : Yba.prog.cellsOf 24 = 3 := by kernel_rfl
theorem Yba.cells5 : Yba.prog.cellsOf 5 = 1 := by kernel_rfl

theorem wf_u8 {z : Int} (h : (Lit.int .u8 z).wf = true) : 0 ≤ z ∧ z ≤ 255 := by
  simp [Lit.wf, IntKind.min, IntKind.max, IntKind.signed, IntKind.bits] at h
  omega

/-- A ZzS4381ANum, opened. -/
theorem open_num {H : Type} {enc : TypeId × Value → H} {W : World} {r : Reach} {b0 : Nat} {v : Value} {d : DataW H} {p : List MemPlace}
    (hv : Value.okWide Yba.prog W r b0 24 v) (h : DataW.Trod enc Yba.prog W 0 (fun _ => true) true 24 v d p) :
    ∃ (n : Bool) (a : Option Addr) (len cap : Nat) (e : Int) (zs : List Int), v = .agg #[.bool n, .slice a len cap, .int .i64 e] ∧ Row W a len zs := by
  obtain ⟨c0, c1, c2, y0, y1, y2, m, rfl, _, _, hy0, hy1, hy2⟩ := open_agg3 Yba.underlying24 (by kernel_rfl) Yba.cells24 hv h
  obtain ⟨n, e0, _⟩ := DataW.trod_bool Yba.underlying4 hy0
  obtain ⟨e, e2, _⟩ := DataW.trod_int Yba.underlying2 hy2
  simp at e0 e2
  subst e0 e2
  rcases open_ints Yba.underlying22 Yba.underlying5 Yba.cells5 hy1 with ⟨hcs, _⟩ | ⟨x, l, c, zs, hcs, _, hl, hm, hz, _, hcell, hwz⟩
  · simp at hcs
    subst hcs
    exact ⟨n, _, _, _, e, [], rfl, rfl, fun z hz => (by cases hz), fun k hk => absurd hk (Nat.not_lt_zero _)⟩
  · simp at hcs
    subst hcs
    simp only [if_true] at hz
    refine ⟨n, _, _, _, e, zs.take l, rfl, by simp; omega, fun z hzm => wf_u8 (hwz z (List.mem_of_mem_take hzm)), fun k hk => ?_⟩
    obtain ⟨b, off, rfl, hc⟩ := ints_at hcell (by omega)
    refine ⟨b, off, rfl, World.block_lt_of_cell? _ _ (hc k (by omega)), ?_⟩
    rw [hc k (by omega)]
    simp [List.getD, hk]

theorem walk3 (n1 n2 : Bool) (a1 a2 : Option Addr) (len1 cap1 len2 cap2 : Nat) (z1 z2 : List Int) (e1 e2 : Int) (w : World) (r1 : Row w a1 len1 z1) (r2 : Row w a2 len2 z2) :
    Calls Yba.prog 3 #[.agg #[.bool n1, .slice a1 len1 cap1, .int .i64 e1], .agg #[.bool n2, .slice a2 len2 cap2, .int .i64 e2]] w fun e w' => e = .returned (.bool true) ∧ Below w.heap.size w w' := by
  by_cases h1 : len1 ≤ 1024
  · by_cases h2 : len2 ≤ 1024
    · exact model_short n1 n2 a1 a2 len1 cap1 len2 cap2 z1 z2 e1 e2 w h1 h2 r1 r2
    · exact model_long2 n1 n2 a1 a2 len1 cap1 len2 cap2 e1 e2 w h1 (by omega)
  · exact model_long1 n1 n2 a1 a2 len1 cap1 len2 cap2 e1 e2 w (by omega)

namespace lawS4381AModel
set_option maxRecDepth 100000 in
theorem lifted (os : Os) (started : os.Started) (H : Type) (enc : TypeId × Value → H) :
    ReturnsInHanded {} Yba.checked os 3 .any (Rows.lawS4381AModelSpec.pre6 enc Yba.prog Yba.f3 Rows.lawS4381AModelRow.domain false) (Rows.lawS4381AModelSpec.post enc Yba.prog Yba.f3 false true false false) := by
  refine returnsInHanded_of_change (C := Yba.checked) own started (by kernel_rfl) Yba.func3
    (ChangeSpec.witness6 (enc := enc) (C := Yba.checked) false ⟨#[], #[.agg #[.bool false, .slice none 0 0, .int .i64 0], .agg #[.bool false, .slice none 0 0, .int .i64 0]], []⟩ 8 (by kernel_rfl) (by kernel_rfl) (by kernel_rfl) (by kernel_rfl)) ?_
  intro W base args ds gs before hval0 hW hcnd _
  have hval : ∀ (j : Nat) t v, Yba.f3.params[j]? = some t → args[j]? = some v → Value.okWide Yba.prog W .any base t v := hval0
  have hW' := hW
  obtain ⟨p, q, hA0, hV, rfl, hfz, hnd⟩ := hW
  have hA : DataW.TrodAll enc Yba.prog W 0 (fun _ => true) true Yba.f3.params.toList args.toList ds p := hA0
  rw [Yba.params3] at hA hval
  obtain ⟨v0, vs0, d0, ds0, p0, q0, hargs, rfl, rfl, h0, r0⟩ := trodAll_cons hA
  obtain ⟨v1, vs1, d1, ds1, p1, q1, rfl, rfl, rfl, h1, r1⟩ := trodAll_cons r0
  obtain ⟨rfl, rfl, rfl⟩ := trodAll_nil r1
  obtain rfl : args = #[v0, v1] := by cases args; simp_all
  obtain ⟨rfl, rfl⟩ := trodVars_none hV
  have lt0 : ∀ x ∈ p0, x.block < W.heap.size := by obtain ⟨m, hm⟩ := h0; exact DataW.trod_lt m _ _ _ hm
  have lt1 : ∀ x ∈ p1, x.block < W.heap.size := by obtain ⟨m, hm⟩ := h1; exact DataW.trod_lt m _ _ _ hm
  obtain ⟨n1, a1, len1, cap1, e1, z1, hv1, w1⟩ := open_num (hval 0 24 v0 rfl rfl) h0
  obtain ⟨n2, a2, len2, cap2, e2, z2, hv2, w2⟩ := open_num (hval 1 24 v1 rfl rfl) h1
  clear hA0 hval0
  have hwalk : Calls Yba.prog 3 #[v0, v1] W (fun e w' => e = .returned (.bool true) ∧ Below W.heap.size W w') := by rw [hv1, hv2]; exact walk3 n1 n2 a1 a2 len1 cap1 len2 cap2 z1 z2 e1 e2 W w1 w2
  refine hwalk.mono fun e W' ⟨he, bel⟩ => ?_
  subst he
  exact ⟨_, rfl, _, _, _, [], _, [], hW', trodAll_mk1 (shut_bool Yba.underlying4 _), (trodAll_cons_mk (Below.trod laidOut (by kernel_rfl) (of_decide_eq_true (by kernel_rfl)) h0 bel lt0) (trodAll_cons_mk (Below.trod laidOut (by kernel_rfl) (of_decide_eq_true (by kernel_rfl)) h1 bel lt1) trodAll_mk0)), rfl, bel.frame _, fun h => by cases h⟩

theorem over : Rows.lawS4381AModelRow.holds Yba.pinned (OpenSpec.ofChange Rows.lawS4381AModelSpec) :=
  OpenClaim.holds_of_wide 3 Yba.f3 rfl rfl rfl rfl rfl rfl rfl ⟨rfl, rfl, rfl, rfl, rfl⟩ rfl rfl rfl rfl rfl (by kernel_rfl) Yba.func3 (by kernel_rfl)
    (of_decide_eq_true (by kernel_rfl)) (by unfold Func.isWrapper; first | (rw [if_pos (by decide +kernel)]; kernel_rfl) | (rw [if_neg (by decide +kernel)]; exact ⟨rfl, rfl⟩))
    (fun os started H enc _ => lifted os started H enc)
end lawS4381AModel

theorem lawS4381AModel_proved : Rows.LawS4381AModelSaid := lawS4381AModel.over
#print axioms lawS4381AModel_proved
end Go.Proofs.Ybulkclsa
