import Derived.Test.YbulkclsaBuild
namespace Go.Proofs.Ybulkclsa
open Go.RowKit

theorem ci_anti (a b : Int) : Lib.compareInt b a = - Lib.compareInt a b := by
  unfold Lib.compareInt
  by_cases h : a < b
  · have h' : ¬ b < a := by omega
    simp [h, h']
  · by_cases h' : b < a <;> simp [h, h']

theorem cb_anti : ∀ (a b : List UInt8), Lib.compareBytes b a = - Lib.compareBytes a b
  | [], [] => by simp [Lib.compareBytes]
  | [], _ :: _ => by simp [Lib.compareBytes]
  | _ :: _, [] => by simp [Lib.compareBytes]
  | a :: xs, b :: ys => by
    have ih := cb_anti xs ys
    simp only [Lib.compareBytes]
    by_cases h : a < b
    · have h' : ¬ b < a := UInt8.not_lt.2 (UInt8.le_of_lt h)
      simp [h, h']
    · by_cases h' : b < a
      · simp [h, h']
      · simp [h, h', ih]

theorem mag_anti (e1 : Int) (d1 : List UInt8) (e2 : Int) (d2 : List UInt8) : mag e2 d2 e1 d1 = - mag e1 d1 e2 d2 := by
  unfold mag
  by_cases h : e1 = e2
  · rw [if_pos h, if_pos h.symm, cb_anti]
  · rw [if_neg h, if_neg (Ne.symm h), ci_anti]

theorem mdl_anti (s1 e1 : Int) (d1 : List UInt8) (s2 e2 : Int) (d2 : List UInt8) : mdl s2 e2 d2 s1 e1 d1 = - mdl s1 e1 d1 s2 e2 d2 := by
  unfold mdl
  by_cases h : s1 = s2
  · subst h
    rw [if_pos rfl, if_pos rfl, mag_anti e1 d1 e2 d2]
    by_cases h0 : s1 = 0
    · simp [h0]
    · by_cases hn : s1 < 0 <;> simp [h0, hn]
  · rw [if_neg h, if_neg (Ne.symm h), ci_anti]

theorem cnDI_anti (n : Int) (E u : Nat) (nz : Bool) (ez : Int) (dz : List UInt8) : cnDI n E u nz ez dz = - cnID n E u nz ez dz := by
  unfold cnDI cnID
  by_cases h : Lib.compareInt n 0 = sg nz
  · rw [if_pos h, if_pos h]; by_cases hn : sg nz < 0 <;> simp [hn]
  · rw [if_neg h, if_neg h, ci_anti]

/-! ### digits -/
theorem dg_cons_zero (x : UInt8) (xs : List UInt8) : dg (x :: xs) 0 = x.toNat - 48 := rfl
theorem dg_cons_succ (x : UInt8) (xs : List UInt8) (i : Nat) : dg (x :: xs) (i + 1) = dg xs i := rfl
theorem dg_nil (i : Nat) : dg [] i = 0 := by simp [dg]
theorem Digs.tail {x : UInt8} {xs : List UInt8} (h : Digs (x :: xs)) : Digs xs := fun d hd => h d (List.mem_cons_of_mem _ hd)
theorem Digs.head {x : UInt8} {xs : List UInt8} (h : Digs (x :: xs)) : 48 ≤ x.toNat ∧ x.toNat ≤ 57 := h x (List.mem_cons_self ..)

theorem ip_eq {a b : List UInt8} (ha : Digs a) (hb : Digs b) : ∀ E, ipart a E = ipart b E → ∀ j, j < E → dg a j = dg b j
  | 0, _, j, hj => absurd hj (Nat.not_lt_zero _)
  | E + 1, h, j, hj => by
    have h1 := dg_le ha E
    have h2 := dg_le hb E
    simp only [ipart] at h
    have e1 : ipart a E = ipart b E := by omega
    have e2 : dg a E = dg b E := by omega
    by_cases e : j = E
    · rw [e]; exact e2
    · exact ip_eq ha hb E e1 j (by omega)

theorem ip_lt {a b : List UInt8} (ha : Digs a) (hb : Digs b) : ∀ E, ipart a E < ipart b E → ∃ i, i < E ∧ (∀ j, j < i → dg a j = dg b j) ∧ dg a i < dg b i
  | 0, h => by simp [ipart] at h
  | E + 1, h => by
    have h1 := dg_le ha E
    have h2 := dg_le hb E
    simp only [ipart] at h
    by_cases e : ipart a E = ipart b E
    · exact ⟨E, by omega, ip_eq ha hb E e, by omega⟩
    · obtain ⟨i, hi, hj, hk⟩ := ip_lt ha hb E (by omega)
      exact ⟨i, by omega, hj, hk⟩

theorem cb_of_lt : ∀ (a b : List UInt8) (i : Nat), Digs a → Digs b → (∀ j, j < i → dg a j = dg b j) → dg a i < dg b i → Lib.compareBytes a b = -1
  | [], [], i, _, _, _, h => by rw [dg_nil] at h; omega
  | [], _ :: _, _, _, _, _, _ => by simp [Lib.compareBytes]
  | x :: xs, [], i, _, _, _, h => by rw [dg_nil] at h; omega
  | x :: xs, y :: ys, 0, ha, hb, _, h => by
    rw [dg_cons_zero, dg_cons_zero] at h
    have hxy : x < y := by rw [UInt8.lt_iff_toNat_lt]; omega
    simp [Lib.compareBytes, hxy]
  | x :: xs, y :: ys, i + 1, ha, hb, hj, h => by
    have h0 := hj 0 (by omega)
    rw [dg_cons_zero, dg_cons_zero] at h0
    have h1 := ha.head
    have h2 := hb.head
    have hxy : x = y := UInt8.toNat_inj.1 (by omega)
    subst hxy
    have ih := cb_of_lt xs ys i ha.tail hb.tail (fun j hji => by have := hj (j + 1) (by omega); simpa [dg_cons_succ] using this) (by simpa [dg_cons_succ] using h)
    simp [Lib.compareBytes, ih, UInt8.lt_irrefl]

theorem cb_of_prefix : ∀ (a b : List UInt8) (E : Nat), Digs a → Digs b → (∀ j, j < E → dg a j = dg b j) → a.length ≤ E → E < b.length → Lib.compareBytes a b = -1
  | [], [], E, _, _, _, _, h => by simp at h
  | [], _ :: _, _, _, _, _, _, _ => by simp [Lib.compareBytes]
  | x :: xs, [], E, _, _, _, _, h => by simp at h
  | x :: xs, y :: ys, 0, _, _, _, h, _ => by simp at h
  | x :: xs, y :: ys, E + 1, ha, hb, hj, hl, hb2 => by
    have h0 := hj 0 (by omega)
    rw [dg_cons_zero, dg_cons_zero] at h0
    have h1 := ha.head
    have h2 := hb.head
    have hxy : x = y := UInt8.toNat_inj.1 (by omega)
    subst hxy
    have ih := cb_of_prefix xs ys E ha.tail hb.tail (fun j hji => by have := hj (j + 1) (by omega); simpa [dg_cons_succ] using this) (by simpa using hl) (by simpa using hb2)
    simp [Lib.compareBytes, ih, UInt8.lt_irrefl]

/-- THE CORE: of one sign, an integer's magnitude against a decimal's. -/
theorem core {d1 d2 : List UInt8} {E u : Nat} {e2 : Int} {neg : Bool} (h1 : Digs d1) (h2 : Digs d2) (hl : d1.length ≤ E) (hE : E ≤ 19) (hu : ipart d1 E = u) (hlim : u ≤ lim neg) (hn : ¬ IsI neg d2 e2) :
    mag E d1 e2 d2 = - cwi e2 d2 E u := by
  unfold mag cwi
  by_cases he : (E : Int) = e2
  · subst he
    rw [if_pos rfl, if_pos rfl]
    by_cases hip : ipart d2 E = u
    · rw [if_pos hip]
      have hlt : E < d2.length := by
        apply Nat.lt_of_not_le; intro h
        exact hn ⟨by omega, by omega, by rw [Int.toNat_natCast, hip]; exact hlim⟩
      rw [cb_of_prefix d1 d2 E h1 h2 (ip_eq h1 h2 E (by rw [hu, hip])) hl hlt]
      have : ¬ (d2.length : Int) < E := by omega
      have h' : (E : Int) < d2.length := by omega
      simp [Lib.compareInt, this, h']
    · rw [if_neg hip]
      by_cases hlt : u < ipart d2 E
      · obtain ⟨i, hi, hj, hk⟩ := ip_lt h1 h2 E (by rw [hu]; exact hlt)
        rw [cb_of_lt d1 d2 i h1 h2 hj hk]
        have : ¬ (ipart d2 E : Int) < u := by omega
        have h' : (u : Int) < ipart d2 E := by omega
        simp [Lib.compareInt, this, h']
      · obtain ⟨i, hi, hj, hk⟩ := ip_lt h2 h1 E (by rw [hu]; omega)
        rw [cb_anti d2 d1, cb_of_lt d2 d1 i h2 h1 hj hk]
        have : (ipart d2 E : Int) < u := by omega
        simp [Lib.compareInt, this]
  · rw [if_neg he, if_neg (Ne.symm he), ci_anti e2 E]

theorem ci_sgn {neg : Bool} {u : Nat} (hu : 0 < u) : Lib.compareInt (sgn neg u) 0 = sg neg := by
  cases neg
  · have h1 : ¬ (u : Int) < 0 := by omega
    simp [sgn, sg, Lib.compareInt, h1, hu]
  · have h1 : 0 < u := by omega
    simp [sgn, sg, Lib.compareInt, h1]

theorem cnID_mdl {d1 d2 : List UInt8} {E u : Nat} {e2 : Int} {n1 n2 : Bool} (h1 : Digs d1) (h2 : Digs d2) (hl : d1.length ≤ E) (hE : E ≤ 19) (hu : ipart d1 E = u) (hlim : u ≤ lim n1) (hu0 : 0 < u) (hn : ¬ IsI n2 d2 e2) :
    cnID (sgn n1 u) E u n2 e2 d2 = mdl (sg n1) E d1 (sg n2) e2 d2 := by
  unfold cnID mdl
  rw [ci_sgn hu0]
  by_cases hs : sg n1 = sg n2
  · have hnn : n1 = n2 := by revert hs; cases n1 <;> cases n2 <;> simp [sg]
    subst hnn
    rw [if_pos rfl, if_pos rfl, core h1 h2 hl hE hu hlim hn]
    cases n1 <;> simp [sg]
  · rw [if_neg hs, if_neg hs]

theorem ip_lo {d : List UInt8} (h : 1 ≤ dg d 0) : ∀ e, 10 ^ e ≤ ipart d (e + 1)
  | 0 => by simp [ipart]; exact h
  | e + 1 => by
    have := ip_lo h e
    rw [ipart, Nat.pow_succ]; omega

theorem wf_dg0 {d : List UInt8} (h : Wf d) : 1 ≤ dg d 0 := by
  obtain ⟨hd, hne, hf, _⟩ := h
  match d, hne with
  | x :: xs, _ =>
    have := hd.head
    rw [dg_cons_zero]
    have hx : x ≠ 48 := fun e => hf (by simp [e])
    have : x.toNat ≠ 48 := fun e => hx (UInt8.toNat_inj.1 e)
    omega

/-- an int that numberValue built: its digits' number E, its magnitude u -/
theorem built_int {neg : Bool} {d : List UInt8} {e : Int} (hw : Wf d) (hI : IsI neg d e) : ∃ E u : Nat, e = E ∧ 1 ≤ E ∧ E ≤ 19 ∧ ipart d E = u ∧ d.length ≤ E ∧ 10 ^ (E - 1) ≤ u ∧ u < 10 ^ E ∧ u ≤ lim neg ∧ 0 < u := by
  obtain ⟨i1, i2, i3⟩ := hI
  obtain ⟨E, rfl⟩ := Int.eq_ofNat_of_zero_le (show 0 ≤ e by omega)
  rw [Int.toNat_natCast] at i3
  have hl : 0 < d.length := List.length_pos_iff.2 hw.ne
  obtain ⟨E, rfl⟩ : ∃ k, E = k + 1 := ⟨E - 1, by omega⟩
  have hlo := ip_lo (wf_dg0 hw) E
  have hp : 0 < 10 ^ E := Nat.pow_pos (by decide)
  exact ⟨E + 1, _, rfl, by omega, by omega, rfl, by omega, by simpa using hlo, ipart_lt hw.digs _, i3, by omega⟩

theorem lim_le (neg : Bool) : lim neg ≤ 9223372036854775808 := by cases neg <;> decide
theorem natAbs_sgn (neg : Bool) (u : Nat) : (sgn neg u).natAbs = u := by cases neg <;> simp [sgn]
end Go.Proofs.Ybulkclsa
