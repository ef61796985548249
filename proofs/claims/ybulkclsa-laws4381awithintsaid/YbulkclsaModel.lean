import Derived.Test.YbulkclsaLaw
namespace Go.Proofs.Ybulkclsa
open Go.RowKit

/-- What the walk is told of a number's digits: a row of bytes that came in. -/
structure Row (w : World) (a : Option Addr) (len : Nat) (zs : List Int) : Prop where
  len_eq : zs.length = len
  range : ∀ z ∈ zs, 0 ≤ z ∧ z ≤ 255
  row : ∀ k, k < len → ∃ b off, a = some ⟨b, off, none⟩ ∧ b < w.heap.size ∧ w.cell? ⟨b, off + k, none⟩ = some (.int .u8 (zs.getD k 0))

theorem Row.keep {w w' : World} {a : Option Addr} {len : Nat} {zs : List Int} (h : Row w a len zs) (hb : Below w.heap.size w w') : Row w' a len zs :=
  ⟨h.len_eq, h.range, fun k hk => by
    obtain ⟨b, off, e, hlt, hc⟩ := h.row k hk
    exact ⟨b, off, e, Nat.lt_of_lt_of_le hlt hb.size, (hb.cell (p := ⟨b, off + k, none⟩) hlt).trans hc⟩⟩

def VIs (neg : Bool) (e : Int) (s : ByteArray) (kd : Int) (ng : Bool) (n : Int) (st : ByteArray) : Prop :=
  (IsI neg s.data.toList e ∧ kd = 1 ∧ n = sgn neg (ipart s.data.toList e.toNat)) ∨ (¬ IsI neg s.data.toList e ∧ kd = 4 ∧ ng = neg ∧ n = e ∧ st = s)
theorem VOf.form {neg : Bool} {e : Int} {s : ByteArray} {V : Value} (h : VOf neg e s V) : ∃ kd ng n st, V = .agg #[.int .u8 kd, .bool ng, .int .i64 n, .string st, .pointer none] ∧ VIs neg e s kd ng n st := by
  rcases h with ⟨h, rfl⟩ | ⟨h, rfl⟩
  · exact ⟨_, _, _, _, rfl, Or.inl ⟨h, rfl, rfl⟩⟩
  · exact ⟨_, _, _, _, rfl, Or.inr ⟨h, rfl, rfl, rfl, rfl⟩⟩

set_option maxHeartbeats 1000000 in
theorem model_long1 (n1 n2 : Bool) (a1 a2 : Option Addr) (len1 cap1 len2 cap2 : Nat) (e1 e2 : Int) (w : World) (h : 1024 < len1) :
    Calls Yba.prog 3 #[.agg #[.bool n1, .slice a1 len1 cap1, .int .i64 e1], .agg #[.bool n2, .slice a2 len2 cap2, .int .i64 e2]] w fun e w' => e = .returned (.bool true) ∧ Below w.heap.size w w' := by
  have h' : (1024 : Int) < len1 := by omega
  go_enter Yba.func3, Yba.ntmps3
  go_wp2_with fail
  go_ret
  exact ⟨rfl, ((Below.refl _ _).alloc (Nat.le_refl _) _).alloc (by simp) _⟩

set_option maxHeartbeats 1000000 in
theorem model_long2 (n1 n2 : Bool) (a1 a2 : Option Addr) (len1 cap1 len2 cap2 : Nat) (e1 e2 : Int) (w : World) (h1 : len1 ≤ 1024) (h : 1024 < len2) :
    Calls Yba.prog 3 #[.agg #[.bool n1, .slice a1 len1 cap1, .int .i64 e1], .agg #[.bool n2, .slice a2 len2 cap2, .int .i64 e2]] w fun e w' => e = .returned (.bool true) ∧ Below w.heap.size w w' := by
  have h' : (1024 : Int) < len2 := by omega
  have h1' : ¬ (1024 : Int) < len1 := by omega
  go_enter Yba.func3, Yba.ntmps3
  go_wp2_with fail
  go_ret
  exact ⟨rfl, ((Below.refl _ _).alloc (Nat.le_refl _) _).alloc (by simp) _⟩

set_option maxHeartbeats 4000000 in
theorem model_short (n1 n2 : Bool) (a1 a2 : Option Addr) (len1 cap1 len2 cap2 : Nat) (z1 z2 : List Int) (e1 e2 : Int) (w : World) (h1 : len1 ≤ 1024) (h2 : len2 ≤ 1024) (r1 : Row w a1 len1 z1) (r2 : Row w a2 len2 z2) :
    Calls Yba.prog 3 #[.agg #[.bool n1, .slice a1 len1 cap1, .int .i64 e1], .agg #[.bool n2, .slice a2 len2 cap2, .int .i64 e2]] w fun e w' => e = .returned (.bool true) ∧ Below w.heap.size w w' := by
  have h1' : ¬ (1024 : Int) < len1 := by omega
  have h2' : ¬ (1024 : Int) < len2 := by omega
  have hb0 : Below w.heap.size w ((w.alloc (.cells #[.bool n1, .slice a1 len1 cap1, .int .i64 e1] 24)).alloc (.cells #[.bool n2, .slice a2 len2 cap2, .int .i64 e2] 24)) := ((Below.refl _ _).alloc (Nat.le_refl _) _).alloc (by simp) _
  have ra := r1.keep hb0
  go_enter Yba.func3, Yba.ntmps3
  go_wp2_with fail
  refine (build_any n1 a1 len1 cap1 e1 z1 ra.len_eq h1 ra.range _ ra.row).mono ?_
  rintro r wa ⟨s1, V1, hw1, hs1, hV1, rfl, hba⟩
  have hbw : Below w.heap.size w wa := hb0.trans (hba.mono (by simp; omega))
  have d0 : wa.cell? ⟨w.heap.size + 1, 0, none⟩ = some (.bool n2) := by rw [hba.cell (p := ⟨w.heap.size + 1, 0, none⟩) (by simp)]; simp
  have d1 : wa.cell? ⟨w.heap.size + 1, 1, none⟩ = some (.slice a2 len2 cap2) := by rw [hba.cell (p := ⟨w.heap.size + 1, 1, none⟩) (by simp)]; simp
  have d2 : wa.cell? ⟨w.heap.size + 1, 2, none⟩ = some (.int .i64 e2) := by rw [hba.cell (p := ⟨w.heap.size + 1, 2, none⟩) (by simp)]; simp
  have hsz : w.heap.size + 1 < wa.heap.size := by have := hba.size; simp at this; omega
  clear hba hb0 ra
  obtain ⟨kd, ng, n, st, hVe, hU1⟩ := hV1.form
  subst hVe
  clear hV1
  clear h1' h2' r1
  go_wp2_with fail
  have hbA : Below w.heap.size w (wa.alloc (.cells #[.int .u8 kd, .bool ng, .int .i64 n, .string st, .pointer none] 28)) := hbw.alloc hbw.size _
  have rb := r2.keep hbA
  refine (build_any n2 a2 len2 cap2 e2 z2 rb.len_eq h2 rb.range _ rb.row).mono ?_
  rintro r wb ⟨s2, V2, hw2, hs2, hV2, rfl, hbb⟩
  have hbW : Below w.heap.size w wb := hbA.trans (hbb.mono (by simp; omega))
  have x0 : wb.cell? ⟨wa.heap.size, 0, none⟩ = some (.int .u8 kd) := by rw [hbb.cell (p := ⟨wa.heap.size, 0, none⟩) (by simp)]; simp
  have x1 : wb.cell? ⟨wa.heap.size, 1, none⟩ = some (.bool ng) := by rw [hbb.cell (p := ⟨wa.heap.size, 1, none⟩) (by simp)]; simp
  have x2 : wb.cell? ⟨wa.heap.size, 2, none⟩ = some (.int .i64 n) := by rw [hbb.cell (p := ⟨wa.heap.size, 2, none⟩) (by simp)]; simp
  have x3 : wb.cell? ⟨wa.heap.size, 3, none⟩ = some (.string st) := by rw [hbb.cell (p := ⟨wa.heap.size, 3, none⟩) (by simp)]; simp
  have hsb : wa.heap.size < wb.heap.size := by have := hbb.size; simp at this; omega
  clear hbb rb r2 hbA hbw d0 d1 d2 hsz
  obtain ⟨kd', ng', n', st', hVe, hU2⟩ := hV2.form
  subst hVe
  clear hV2
  have hX : IsVal (wb.alloc (.cells #[.int .u8 kd', .bool ng', .int .i64 n', .string st', .pointer none] 28)) wa.heap.size kd ng n st :=
    ⟨by rw [World.cell?_alloc_past _ _ _ hsb]; exact x0, by rw [World.cell?_alloc_past _ _ _ hsb]; exact x1, by rw [World.cell?_alloc_past _ _ _ hsb]; exact x2, by rw [World.cell?_alloc_past _ _ _ hsb]; exact x3⟩
  have hY : IsVal (wb.alloc (.cells #[.int .u8 kd', .bool ng', .int .i64 n', .string st', .pointer none] 28)) wb.heap.size kd' ng' n' st' := ⟨by simp, by simp, by simp, by simp⟩
  have hbF : Below w.heap.size w (wb.alloc (.cells #[.int .u8 kd', .bool ng', .int .i64 n', .string st', .pointer none] 28)) := hbW.alloc hbW.size _
  rcases hU1 with ⟨hI1, rfl, rfl⟩ | ⟨hI1, rfl, rfl, rfl, rfl⟩
  · rcases hU2 with ⟨hI2, rfl, rfl⟩ | ⟨hI2, rfl, rfl, rfl, rfl⟩
    · go_wp2_with fail
      go_ret
      exact ⟨rfl, hbF⟩
    · go_wp2_with (go_at_call 6; refine (model_any _ _ _ _ _ _ _).mono ?_; rintro e w' ⟨rfl, rfl⟩)
      obtain ⟨E, u, rfl, q1, q2, q3, q4, q5, q6, q7, q8⟩ := built_int hw1 hI1
      rw [Int.toNat_natCast, q3] at hX
      refine (cn_id _ _ _ _ _ _ _ _ _ hX hY (by omega) hw2.digs E u q1 q2 (Or.inr q5) q6 (by rw [natAbs_sgn]) (Nat.le_trans q7 (lim_le _))).mono ?_
      rintro e w' ⟨rfl, rfl⟩
      rw [cnID_mdl hw1.digs hw2.digs q4 q2 q3 q7 q8 hI2]
      go_wp2_with fail
      go_ret
      exact ⟨by simp, hbF⟩
  · rcases hU2 with ⟨hI2, rfl, hn'⟩ | ⟨hI2, rfl, rfl, rfl, rfl⟩
    · have HN : Hid _ := hn'
      clear hn'
      go_wp2_with (go_at_call 6; refine (model_any _ _ _ _ _ _ _).mono ?_; rintro e w' ⟨rfl, rfl⟩)
      obtain ⟨E, u, rfl, q1, q2, q3, q4, q5, q6, q7, q8⟩ := built_int hw2 hI2
      have hn' := HN.out
      rw [Int.toNat_natCast, q3] at hn'
      refine (cn_di _ _ _ _ _ _ _ _ _ hY hX (by omega) hw1.digs E u q1 q2 (Or.inr q5) q6 (by rw [hn', natAbs_sgn]) (Nat.le_trans q7 (lim_le _))).mono ?_
      rintro e w' ⟨rfl, rfl⟩
      rw [hn'] at hbF
      rw [hn', cnDI_anti, cnID_mdl hw2.digs hw1.digs q4 q2 q3 q7 q8 hI1, ← mdl_anti]
      go_wp2_with fail
      go_ret
      exact ⟨by simp, hbF⟩
    · go_wp2_with (go_at_call 6; refine (model_any _ _ _ _ _ _ _).mono ?_; rintro e w' ⟨rfl, rfl⟩)
      refine (cn_dd _ _ _ _ _ _ _ _ _ hX hY).mono ?_
      rintro e w' ⟨rfl, q, rfl⟩
      go_wp2_with fail
      go_ret
      exact ⟨by simp, below_drewN hbF _⟩
end Go.Proofs.Ybulkclsa
