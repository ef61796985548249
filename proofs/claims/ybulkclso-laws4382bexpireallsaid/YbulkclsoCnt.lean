import Derived.Test.YbulkclsoExp
namespace Go.Proofs.Ybulkclso
open Go.RowKit Go.Maps

/-- The places below k at which a number stands for the first time, and those numbers. -/
def firsts (H : List Int) (k : Nat) : List Int := ((List.range k).filter (fun i => decide (idxOf H (H.getD i 0) = (i : Int)))).map (fun i => H.getD i 0)

theorem firsts_yes {H : List Int} {k : Nat} (h : idxOf H (H.getD k 0) = k) : firsts H (k + 1) = firsts H k ++ [H.getD k 0] := by
  unfold firsts
  rw [List.range_succ, List.filter_append, List.map_append]
  simp only [List.filter_cons, h, decide_true, if_true, List.filter_nil, List.map_cons, List.map_nil]
theorem firsts_no {H : List Int} {k : Nat} (h : ¬ idxOf H (H.getD k 0) = k) : firsts H (k + 1) = firsts H k := by
  unfold firsts
  rw [List.range_succ, List.filter_append, List.map_append]
  simp only [List.filter_cons, h, decide_false, Bool.false_eq_true, if_false, List.filter_nil, List.map_nil, List.append_nil]

theorem idxOf_mem {H : List Int} {x : Int} (h : x ∈ H) : ∃ i : Nat, i < H.length ∧ idxOf H x = i ∧ H.getD i 0 = x := by
  unfold idxOf
  cases hf : H.findIdx? (· == x) with
  | none =>
    have := List.findIdx?_eq_none_iff.1 hf x h
    simp at this
  | some i =>
    obtain ⟨hi, he, _⟩ := List.findIdx?_eq_some_iff_getElem.1 hf
    refine ⟨i, hi, rfl, ?_⟩
    have : H[i] = x := by simpa using he
    simp [List.getD, hi, this]

theorem mem_firsts {H : List Int} {x : Int} : x ∈ firsts H H.length ↔ x ∈ H := by
  unfold firsts
  constructor
  · intro h
    obtain ⟨i, hi, rfl⟩ := List.mem_map.1 h
    have hlt : i < H.length := by simpa using (List.mem_filter.1 hi).1
    simp [List.getD, hlt]
  · intro h
    obtain ⟨i, hi, h1, h2⟩ := idxOf_mem h
    refine List.mem_map.2 ⟨i, List.mem_filter.2 ⟨by simpa using hi, ?_⟩, h2⟩
    rw [h2]; simpa using h1

theorem firsts_nodup (H : List Int) (k : Nat) : (firsts H k).Nodup := by
  induction k with
  | zero => simp [firsts]
  | succ k ih =>
    by_cases h : idxOf H (H.getD k 0) = k
    · rw [firsts_yes h]
      rw [List.nodup_append]
      refine ⟨ih, by simp, ?_⟩
      intro a ha b hb e
      have hb' : b = H.getD k 0 := by simpa using hb
      subst e
      obtain ⟨i, hi, h2⟩ := List.mem_map.1 ha
      have hlt : i < k := by simpa using (List.mem_filter.1 hi).1
      have h3 : idxOf H (H.getD i 0) = i := by simpa using (List.mem_filter.1 hi).2
      rw [h2, hb', h] at h3
      omega
    · rw [firsts_no h]; exact ih

theorem size_of_has {D : DataW Unit} (c : Canon D) {L : List Lit} (hL : L.Nodup) (hh : ∀ kl, has D kl = true ↔ kl ∈ L) : size D = L.length := by
  obtain ⟨es, rfl, hs, hk⟩ := c
  have h1 : (es.map (·.1)).Nodup := by
    rw [List.nodup_iff_pairwise_ne, List.pairwise_map]
    exact apart_of_rising hs
  have h2 : ∀ kl, kl ∈ es.map (·.1) ↔ kl ∈ L := fun kl => by
    rw [← hh kl]
    constructor
    · intro h
      obtain ⟨p, hp, rfl⟩ := List.mem_map.1 h
      exact List.any_eq_true.2 ⟨p, hp, WideAt.sameKey_self (hk p hp)⟩
    · intro h
      obtain ⟨p, hp, he⟩ := List.any_eq_true.1 h
      exact List.mem_map.2 ⟨p, hp, WideAt.sameKey_eq he⟩
  have h3 := ((List.perm_ext_iff_of_nodup h1 hL).2 h2).length_eq
  simpa [size] using h3

theorem filter_parts {α : Type} (p : α → Bool) : ∀ l : List α, (l.filter p).length + (l.filter (fun x => !p x)).length = l.length
  | [] => rfl
  | x :: r => by
    have ih := filter_parts p r
    cases hp : p x <;> simp [hp] <;> omega

theorem mem_knownL {E S P : List Int} {x : Int} : x ∈ knownL E S P ↔ x ∈ E ∨ x ∈ P ∨ x ∈ S := by
  rw [knownL, List.mem_append, List.mem_map]
  constructor
  · rintro (⟨y, hy, rfl⟩ | h)
    · rw [upS, List.mem_append] at hy
      rcases hy with hy | hy
      · obtain ⟨i, hi, rfl⟩ := List.mem_map.1 hy
        have hlt : E.length - 1 - i < E.length := by simp at hi; omega
        left; simp [eAt, List.getD, hlt]
      · obtain ⟨i, hi, rfl⟩ := List.mem_map.1 hy
        have hlt : i < S.length := by simpa using hi
        right; right; simp [List.getD, hlt]
    · exact Or.inr (Or.inl h)
  · rintro (h | h | h)
    · left
      obtain ⟨i, hi, rfl⟩ := List.getElem_of_mem h
      refine ⟨eAt E (E.length - 1 - i), ?_, ?_⟩
      · rw [upS, List.mem_append]
        exact Or.inl (List.mem_map.2 ⟨_, by simp; omega, rfl⟩)
      · have e : E.length - 1 - (E.length - 1 - i) = i := by omega
        simp [eAt, List.getD, e, hi]
    · exact Or.inr h
    · left
      obtain ⟨i, hi, rfl⟩ := List.getElem_of_mem h
      refine ⟨(S.getD i 0, -1), ?_, by simp [List.getD, hi]⟩
      rw [upS, List.mem_append]
      exact Or.inr (List.mem_map.2 ⟨i, by simpa using hi, rfl⟩)

/-- Does the record of x stay? -/
def stayB (E S P : List Int) (keep age x : Int) : Bool := decide (x ∈ knownL E S P) || !dies keep age 0

theorem lit_inj {xs : List Int} (h : xs.Nodup) : (xs.map (Lit.int .u64)).Nodup := by
  rw [List.nodup_iff_pairwise_ne, List.pairwise_map]
  exact (List.nodup_iff_pairwise_ne.1 h).imp (fun hne e => hne (by injection e))

theorem has_setH (H : List Int) (kl : Lit) : has (setOf (.lit (.bool true) : DataW Unit) (H.map (Lit.int .u64))) kl = true ↔ kl ∈ H.map (Lit.int .u64) := by
  rw [has_setOf _ _ _ (fun x hx => by obtain ⟨y, _, rfl⟩ := List.mem_map.1 hx; exact trivial), List.any_eq_true]
  constructor
  · rintro ⟨x, hx, he⟩
    rw [← WideAt.sameKey_eq he]; exact hx
  · intro h
    obtain ⟨y, hy, rfl⟩ := List.mem_map.1 h
    exact ⟨_, h, WideAt.sameKey_self (show WideAt.IsKeyLit (Lit.int .u64 y) from trivial)⟩

/-- What Expire's law comes to: the count of the deleted records. -/
theorem counts {E S P H : List Int} {keep age : Int} {D' : DataW Unit} {del : Nat} (c0 : Canon (setOf (.lit (.bool true) : DataW Unit) (H.map (Lit.int .u64)))) (c' : Canon D')
    (hs : size D' + del = size (setOf (.lit (.bool true) : DataW Unit) (H.map (Lit.int .u64))))
    (hh : ∀ kl, has D' kl = (has (setOf (.lit (.bool true) : DataW Unit) (H.map (Lit.int .u64))) kl && (((knownL E S P).map (Lit.int .u64)).any (fun y => y.sameKey kl) || !dies keep age 0))) :
    size D' + ((firsts H H.length).filter (fun x => !stayB E S P keep age x)).length = (firsts H H.length).length ∧ del = ((firsts H H.length).filter (fun x => !stayB E S P keep age x)).length := by
  have e0 := size_of_has c0 (lit_inj (firsts_nodup H H.length)) (fun kl => by
    rw [has_setH, List.mem_map, List.mem_map]
    constructor <;> (rintro ⟨x, hx, rfl⟩; exact ⟨x, by first | exact mem_firsts.2 hx | exact mem_firsts.1 hx, rfl⟩))
  have hnd : ((firsts H H.length).filter (stayB E S P keep age)).Nodup := (firsts_nodup H H.length).filter _
  have e1 := size_of_has c' (lit_inj hnd) (fun kl => by
    rw [hh kl, Bool.and_eq_true, has_setH, List.mem_map, List.mem_map]
    constructor
    · rintro ⟨⟨x, hx, rfl⟩, hst⟩
      rw [any_lit] at hst
      exact ⟨x, List.mem_filter.2 ⟨mem_firsts.2 hx, hst⟩, rfl⟩
    · rintro ⟨x, hx, rfl⟩
      rw [any_lit]
      exact ⟨⟨x, mem_firsts.1 (List.mem_filter.1 hx).1, rfl⟩, (List.mem_filter.1 hx).2⟩)
  rw [List.length_map] at e0 e1
  have hp := filter_parts (stayB E S P keep age) (firsts H H.length)
  omega
end Go.Proofs.Ybulkclso
