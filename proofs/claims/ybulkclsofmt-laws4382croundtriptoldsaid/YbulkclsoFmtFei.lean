/-
  THE PLAIN LAW: a Feistel network of rounds is a bijection; walking along its cycle ends, and walking back comes home. No Go in sight.
-/
namespace Go.Proofs.YbulkclsoFmt.Fei

/-- one round, and its inverse -/
def rnd (f : Nat → Nat) (p : Nat × Nat) : Nat × Nat := (p.2, p.1 ^^^ f p.2)
def unr (f : Nat → Nat) (p : Nat × Nat) : Nat × Nat := (p.2 ^^^ f p.1, p.1)

theorem unr_rnd (f : Nat → Nat) (p : Nat × Nat) : unr f (rnd f p) = p := by
  simp [unr, rnd, Nat.xor_assoc]

def Small (h : Nat) (p : Nat × Nat) : Prop := p.1 < 2 ^ h ∧ p.2 < 2 ^ h
theorem rnd_small {h : Nat} {f : Nat → Nat} (hf : ∀ r, f r < 2 ^ h) {p : Nat × Nat} (hp : Small h p) : Small h (rnd f p) := ⟨hp.2, Nat.xor_lt_two_pow hp.1 (hf _)⟩
theorem unr_small {h : Nat} {f : Nat → Nat} (hf : ∀ r, f r < 2 ^ h) {p : Nat × Nat} (hp : Small h p) : Small h (unr f p) := ⟨Nat.xor_lt_two_pow hp.2 (hf _), hp.1⟩

def split (h x : Nat) : Nat × Nat := (x / 2 ^ h, x % 2 ^ h)
def join (h : Nat) (p : Nat × Nat) : Nat := p.1 * 2 ^ h + p.2

theorem split_small {h x : Nat} (hx : x < 2 ^ h * 2 ^ h) : Small h (split h x) :=
  ⟨Nat.div_lt_of_lt_mul hx, Nat.mod_lt _ (Nat.pow_pos (by decide))⟩
theorem join_lt {h : Nat} {p : Nat × Nat} (hp : Small h p) : join h p < 2 ^ h * 2 ^ h := by
  have h1 : (p.1 + 1) * 2 ^ h ≤ 2 ^ h * 2 ^ h := Nat.mul_le_mul_right _ hp.1
  have h2 := hp.2
  unfold join
  rw [Nat.add_mul, Nat.one_mul] at h1
  omega
theorem split_join {h : Nat} {p : Nat × Nat} (hp : Small h p) : split h (join h p) = p := by
  have h2 := hp.2
  have hpos : 0 < 2 ^ h := Nat.pow_pos (by decide)
  unfold split join
  have e1 : (p.1 * 2 ^ h + p.2) / 2 ^ h = p.1 := by
    rw [Nat.mul_comm, Nat.mul_add_div hpos, Nat.div_eq_of_lt h2, Nat.add_zero]
  have e2 : (p.1 * 2 ^ h + p.2) % 2 ^ h = p.2 := by
    rw [Nat.mul_comm, Nat.mul_add_mod, Nat.mod_eq_of_lt h2]
  rw [e1, e2]
theorem join_split (h x : Nat) : join h (split h x) = x := by
  unfold split join
  rw [Nat.mul_comm]
  exact Nat.div_add_mod x (2 ^ h)

/-- the rounds in order, and undone from the last -/
def fwd (g : Nat → Nat → Nat) : List Nat → Nat × Nat → Nat × Nat
  | [], p => p
  | k :: ks, p => fwd g ks (rnd (g k) p)
def bwd (g : Nat → Nat → Nat) : List Nat → Nat × Nat → Nat × Nat
  | [], p => p
  | k :: ks, p => unr (g k) (bwd g ks p)

theorem bwd_fwd (g : Nat → Nat → Nat) : ∀ (ks : List Nat) (p : Nat × Nat), bwd g ks (fwd g ks p) = p
  | [], _ => rfl
  | k :: ks, p => by rw [fwd, bwd, bwd_fwd g ks, unr_rnd]
theorem fwd_small {h : Nat} {g : Nat → Nat → Nat} (hg : ∀ k r, g k r < 2 ^ h) : ∀ (ks : List Nat) (p : Nat × Nat), Small h p → Small h (fwd g ks p)
  | [], _, hp => hp
  | _ :: ks, _, hp => fwd_small hg ks _ (rnd_small (hg _) hp)
theorem bwd_small {h : Nat} {g : Nat → Nat → Nat} (hg : ∀ k r, g k r < 2 ^ h) : ∀ (ks : List Nat) (p : Nat × Nat), Small h p → Small h (bwd g ks p)
  | [], _, hp => hp
  | _ :: ks, p, hp => unr_small (hg _) (bwd_small hg ks p hp)

def E (g : Nat → Nat → Nat) (h : Nat) (ks : List Nat) (x : Nat) : Nat := join h (fwd g ks (split h x))
def D (g : Nat → Nat → Nat) (h : Nat) (ks : List Nat) (x : Nat) : Nat := join h (bwd g ks (split h x))

theorem E_lt {g : Nat → Nat → Nat} {h : Nat} (hg : ∀ k r, g k r < 2 ^ h) (ks : List Nat) {x : Nat} (hx : x < 2 ^ h * 2 ^ h) : E g h ks x < 2 ^ h * 2 ^ h := join_lt (fwd_small hg ks _ (split_small hx))
theorem D_lt {g : Nat → Nat → Nat} {h : Nat} (hg : ∀ k r, g k r < 2 ^ h) (ks : List Nat) {x : Nat} (hx : x < 2 ^ h * 2 ^ h) : D g h ks x < 2 ^ h * 2 ^ h := join_lt (bwd_small hg ks _ (split_small hx))
theorem D_E {g : Nat → Nat → Nat} {h : Nat} (hg : ∀ k r, g k r < 2 ^ h) (ks : List Nat) {x : Nat} (hx : x < 2 ^ h * 2 ^ h) : D g h ks (E g h ks x) = x := by
  unfold D E
  rw [split_join (fwd_small hg ks _ (split_small hx)), bwd_fwd, join_split]

/-! ### walking along a cycle -/
def iter (f : Nat → Nat) : Nat → Nat → Nat
  | 0, x => x
  | n + 1, x => f (iter f n x)

theorem pigeon : ∀ (n : Nat) (f : Nat → Nat), (∀ i, i ≤ n → f i < n) → ∃ i j, i < j ∧ j ≤ n ∧ f i = f j
  | 0, f, h => absurd (h 0 (Nat.le_refl _)) (Nat.not_lt_zero _)
  | n + 1, f, h => by
    by_cases hc : ∃ i, i ≤ n ∧ f i = f (n + 1)
    · obtain ⟨i, hi, e⟩ := hc
      exact ⟨i, n + 1, by omega, Nat.le_refl _, e⟩
    · have hne : ∀ i, i ≤ n → f i ≠ f (n + 1) := fun i hi e => hc ⟨i, hi, e⟩
      have hv := h (n + 1) (Nat.le_refl _)
      obtain ⟨i, j, hij, hj, e⟩ := pigeon n (fun i => if f i = n then f (n + 1) else f i) (fun i hi => by
        have h1 := h i (by omega)
        have h2 := hne i hi
        show (if f i = n then f (n + 1) else f i) < n
        split <;> omega)
      refine ⟨i, j, hij, by omega, ?_⟩
      have hi1 := hne i (by omega)
      have hj1 := hne j hj
      have e' : (if f i = n then f (n + 1) else f i) = (if f j = n then f (n + 1) else f j) := e
      split at e' <;> split at e' <;> omega

theorem iter_lt {f : Nat → Nat} {M : Nat} (hf : ∀ x, x < M → f x < M) {x : Nat} (hx : x < M) : ∀ n, iter f n x < M
  | 0 => hx
  | n + 1 => hf _ (iter_lt hf hx n)

theorem cancel {f d : Nat → Nat} {M : Nat} (hf : ∀ x, x < M → f x < M) (hd : ∀ x, x < M → d (f x) = x) {x : Nat} (hx : x < M) : ∀ i j, iter f i x = iter f (i + j) x → x = iter f j x
  | 0, j, h => by rw [Nat.zero_add] at h; exact h
  | i + 1, j, h => by
    have h1 : f (iter f i x) = f (iter f (i + j) x) := by rw [show i + 1 + j = (i + j) + 1 by omega] at h; exact h
    have h2 := congrArg d h1
    rw [hd _ (iter_lt hf hx i), hd _ (iter_lt hf hx (i + j))] at h2
    exact cancel hf hd hx i j h2

/-- some step of the walk comes home -/
theorem comes_home {f d : Nat → Nat} {M : Nat} (hf : ∀ x, x < M → f x < M) (hd : ∀ x, x < M → d (f x) = x) {x : Nat} (hx : x < M) : ∃ m, iter f (m + 1) x = x := by
  obtain ⟨i, j, hij, _, e⟩ := pigeon M (fun i => iter f i x) (fun i _ => iter_lt hf hx i)
  refine ⟨j - i - 1, ?_⟩
  have := cancel hf hd hx i (j - i) (by rw [show i + (j - i) = j by omega]; exact e)
  rw [show j - i - 1 + 1 = j - i by omega]
  exact this.symm

theorem least {p : Nat → Prop} (h : ∃ n, p n) : ∃ n, p n ∧ ∀ m, m < n → ¬ p m := by
  obtain ⟨n, hn⟩ := h
  induction n using Nat.strongRecOn with
  | _ n ih =>
    by_cases hc : ∃ m, m < n ∧ p m
    · obtain ⟨m, hm, hp⟩ := hc
      exact ih m hm hp
    · exact ⟨n, hn, fun m hm hp => hc ⟨m, hm, hp⟩⟩

/-- the walk forth: m steps more than one, the first value at or below 'last' -/
theorem forth {f d : Nat → Nat} {M last x : Nat} (hf : ∀ x, x < M → f x < M) (hd : ∀ x, x < M → d (f x) = x) (hx : x < M) (hl : x ≤ last) :
    ∃ m, iter f (m + 1) x ≤ last ∧ ∀ j, j < m → last < iter f (j + 1) x := by
  obtain ⟨m0, e⟩ := comes_home hf hd hx
  obtain ⟨m, h1, h2⟩ := least (p := fun m => iter f (m + 1) x ≤ last) ⟨m0, by rw [e]; exact hl⟩
  exact ⟨m, h1, fun j hj => Nat.lt_of_not_le (h2 j hj)⟩

/-- each step back undoes one step forth -/
theorem back_step {f d : Nat → Nat} {M x : Nat} (hf : ∀ x, x < M → f x < M) (hd : ∀ x, x < M → d (f x) = x) (hx : x < M) (m : Nat) : ∀ k, k ≤ m → iter d k (iter f m x) = iter f (m - k) x
  | 0, _ => rfl
  | k + 1, hk => by
    rw [iter, back_step hf hd hx m k (by omega), show m - k = (m - (k + 1)) + 1 by omega, iter, hd _ (iter_lt hf hx _)]
end Go.Proofs.YbulkclsoFmt.Fei
