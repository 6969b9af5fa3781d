/-
  THE PLAIN PART OF LawS5007BCover, LawS5007BExact: RFC 6962's list of ranges, on natural numbers. No Go in sight.
-/
namespace Go.Proofs.Ybulkcyrc.Plain

/-- The largest power of two below n (n at least 2). -/
def spl (n : Nat) : Nat := 2 ^ (Nat.log2 (n - 1))

theorem spl_pow (n : Nat) : (spl n).isPowerOfTwo := ⟨_, rfl⟩
theorem spl_pos (n : Nat) : 1 ≤ spl n := Nat.two_pow_pos _
theorem spl_lt {n : Nat} (h : 2 ≤ n) : spl n < n := by
  have := Nat.log2_self_le (n := n - 1) (by omega)
  unfold spl; omega
theorem le_spl {n : Nat} (h : 2 ≤ n) : n ≤ 2 * spl n := by
  have := Nat.lt_log2_self (n := n - 1)
  rw [Nat.pow_succ] at this
  unfold spl; omega
theorem spl_le {n f : Nat} (h : 2 ≤ n) (hf : n ≤ 2 ^ (f + 1)) : spl n ≤ 2 ^ f := by
  unfold spl
  apply Nat.pow_le_pow_right (by omega)
  have := (Nat.log2_lt (n := n - 1) (k := f + 1) (by omega)).2 (by omega)
  omega
/-- The one power of two k with k < n ≤ 2k. -/
theorem spl_eq {n j : Nat} (h : 2 ^ j < n) (h2 : n ≤ 2 * 2 ^ j) : spl n = 2 ^ j := by
  unfold spl
  congr 1
  have hp := Nat.two_pow_pos j
  have a := (Nat.log2_lt (n := n - 1) (k := j + 1) (by omega)).2 (by rw [Nat.pow_succ]; omega)
  have b : ¬ (n - 1).log2 < j := fun hh => by
    have := (Nat.log2_lt (n := n - 1) (k := j) (by omega)).1 hh
    omega
  omega

/-- SUBPROOF's ranges, in the order in which they are asked for. -/
def rng : Nat → Nat → Nat → Nat → Bool → List (Nat × Nat)
  | 0, _, lo, hi, c => if c then [] else [(lo, hi)]
  | f + 1, m, lo, hi, c =>
    if m = hi - lo then (if c then [] else [(lo, hi)])
    else if m ≤ spl (hi - lo) then rng f m lo (lo + spl (hi - lo)) c ++ [(lo + spl (hi - lo), hi)]
    else rng f (m - spl (hi - lo)) (lo + spl (hi - lo)) hi false ++ [(lo, lo + spl (hi - lo))]

theorem rng_done (f m lo hi : Nat) (c : Bool) (h : m = hi - lo) : rng f m lo hi c = if c then [] else [(lo, hi)] := by
  cases f with
  | zero => rfl
  | succ f => rw [rng, if_pos h]
theorem rng_left (f m lo hi : Nat) (c : Bool) (h : m ≠ hi - lo) (hk : m ≤ spl (hi - lo)) :
    rng (f + 1) m lo hi c = rng f m lo (lo + spl (hi - lo)) c ++ [(lo + spl (hi - lo), hi)] := by
  rw [rng, if_neg h, if_pos hk]
theorem rng_right (f m lo hi : Nat) (c : Bool) (h : m ≠ hi - lo) (hk : ¬ m ≤ spl (hi - lo)) :
    rng (f + 1) m lo hi c = rng f (m - spl (hi - lo)) (lo + spl (hi - lo)) hi false ++ [(lo, lo + spl (hi - lo))] := by
  rw [rng, if_neg h, if_neg hk]

theorem rng_len (f : Nat) : ∀ m lo hi c, (rng f m lo hi c).length ≤ f + 1 := by
  induction f with
  | zero => intro m lo hi c; cases c <;> simp [rng]
  | succ f ih =>
    intro m lo hi c
    by_cases h : m = hi - lo
    · rw [rng_done _ _ _ _ _ h]; cases c <;> simp
    by_cases hk : m ≤ spl (hi - lo)
    · rw [rng_left _ _ _ _ _ h hk, List.length_append]; have := ih m lo (lo + spl (hi - lo)) c; simp; omega
    · rw [rng_right _ _ _ _ _ h hk, List.length_append]; have := ih (m - spl (hi - lo)) (lo + spl (hi - lo)) hi false; simp; omega

/-- Inside, not empty. -/
theorem rng_in (f : Nat) : ∀ m lo hi c, 1 ≤ m → m ≤ hi - lo → hi - lo ≤ 2 ^ f → ∀ r ∈ rng f m lo hi c, lo ≤ r.1 ∧ r.1 < r.2 ∧ r.2 ≤ hi := by
  induction f with
  | zero =>
    intro m lo hi c h1 h2 h3 r hr
    cases c
    · simp [rng] at hr; subst hr; dsimp only; omega
    · simp [rng] at hr
  | succ f ih =>
    intro m lo hi c h1 h2 h3 r hr
    by_cases h : m = hi - lo
    · rw [rng_done _ _ _ _ _ h] at hr
      cases c
      · simp at hr; subst hr; dsimp only; omega
      · simp at hr
    have hlt := spl_lt (n := hi - lo) (by omega)
    have hle := le_spl (n := hi - lo) (by omega)
    have hp := spl_pos (hi - lo)
    have hf := spl_le (n := hi - lo) (f := f) (by omega) h3
    by_cases hk : m ≤ spl (hi - lo)
    · rw [rng_left _ _ _ _ _ h hk] at hr
      rcases List.mem_append.1 hr with hr | hr
      · have := ih m lo (lo + spl (hi - lo)) c h1 (by omega) (by omega) r hr; omega
      · simp at hr; subst hr; dsimp only; omega
    · rw [rng_right _ _ _ _ _ h hk] at hr
      rcases List.mem_append.1 hr with hr | hr
      · have := ih (m - spl (hi - lo)) (lo + spl (hi - lo)) hi false (by omega) (by omega) (by omega) r hr; omega
      · simp at hr; subst hr; dsimp only; omega

def apart (r s : Nat × Nat) : Prop := r.2 ≤ s.1 ∨ s.2 ≤ r.1

theorem rng_apart (f : Nat) : ∀ m lo hi c, 1 ≤ m → m ≤ hi - lo → hi - lo ≤ 2 ^ f → (rng f m lo hi c).Pairwise apart := by
  induction f with
  | zero => intro m lo hi c h1 h2 h3; cases c <;> simp [rng]
  | succ f ih =>
    intro m lo hi c h1 h2 h3
    by_cases h : m = hi - lo
    · rw [rng_done _ _ _ _ _ h]; cases c <;> simp
    have hlt := spl_lt (n := hi - lo) (by omega)
    have hle := le_spl (n := hi - lo) (by omega)
    have hp := spl_pos (hi - lo)
    have hf := spl_le (n := hi - lo) (f := f) (by omega) h3
    by_cases hk : m ≤ spl (hi - lo)
    · rw [rng_left _ _ _ _ _ h hk, List.pairwise_append]
      refine ⟨ih _ _ _ _ h1 (by omega) (by omega), by simp, ?_⟩
      intro a ha b hb
      simp at hb; subst hb
      have := rng_in f m lo (lo + spl (hi - lo)) c h1 (by omega) (by omega) a ha
      exact .inl (by dsimp only; omega)
    · rw [rng_right _ _ _ _ _ h hk, List.pairwise_append]
      refine ⟨ih _ _ _ _ (by omega) (by omega) (by omega), by simp, ?_⟩
      intro a ha b hb
      simp at hb; subst hb
      have := rng_in f (m - spl (hi - lo)) (lo + spl (hi - lo)) hi false (by omega) (by omega) (by omega) a ha
      exact .inr (by dsimp only; omega)

def total : List (Nat × Nat) → Nat
  | [] => 0
  | r :: l => (r.2 - r.1) + total l
theorem total_append (a b : List (Nat × Nat)) : total (a ++ b) = total a + total b := by
  induction a with
  | nil => simp [total]
  | cons r a ih => simp [total, ih]; omega

theorem not_pow_between {m j : Nat} (h1 : 2 ^ j < m) (h2 : m < 2 * 2 ^ j) : ¬ m.isPowerOfTwo := by
  rintro ⟨i, rfl⟩
  have a : j < i := (Nat.pow_lt_pow_iff_right (by omega)).1 h1
  have b : i < j + 1 := (Nat.pow_lt_pow_iff_right (a := 2) (by omega)).1 (by rw [Nat.pow_succ]; omega)
  omega

/-- Not complete: the ranges make up the whole. -/
theorem rng_total_false (f : Nat) : ∀ m lo hi, 1 ≤ m → m ≤ hi - lo → hi - lo ≤ 2 ^ f → total (rng f m lo hi false) = hi - lo := by
  induction f with
  | zero => intro m lo hi h1 h2 h3; simp [rng, total]
  | succ f ih =>
    intro m lo hi h1 h2 h3
    by_cases h : m = hi - lo
    · rw [rng_done _ _ _ _ _ h]; simp [total]
    have hlt := spl_lt (n := hi - lo) (by omega)
    have hle := le_spl (n := hi - lo) (by omega)
    have hp := spl_pos (hi - lo)
    have hf := spl_le (n := hi - lo) (f := f) (by omega) h3
    by_cases hk : m ≤ spl (hi - lo)
    · rw [rng_left _ _ _ _ _ h hk, total_append, ih _ _ _ h1 (by omega) (by omega)]; simp [total]; omega
    · rw [rng_right _ _ _ _ _ h hk, total_append, ih _ _ _ (by omega) (by omega) (by omega)]; simp [total]; omega

/-- Complete, the old size a power of two: the ranges make up all but the old tree. -/
theorem rng_total_pow (f : Nat) : ∀ m lo hi, 1 ≤ m → m ≤ hi - lo → hi - lo ≤ 2 ^ f → m.isPowerOfTwo → total (rng f m lo hi true) = hi - lo - m := by
  induction f with
  | zero => intro m lo hi h1 h2 h3 hm; simp [rng, total]; omega
  | succ f ih =>
    intro m lo hi h1 h2 h3 hm
    by_cases h : m = hi - lo
    · rw [rng_done _ _ _ _ _ h]; simp [total]; omega
    have hlt := spl_lt (n := hi - lo) (by omega)
    have hle := le_spl (n := hi - lo) (by omega)
    have hp := spl_pos (hi - lo)
    have hf := spl_le (n := hi - lo) (f := f) (by omega) h3
    by_cases hk : m ≤ spl (hi - lo)
    · rw [rng_left _ _ _ _ _ h hk, total_append, ih _ _ _ h1 (by omega) (by omega) hm]; simp [total]; omega
    · exact absurd hm (not_pow_between (j := Nat.log2 (hi - lo - 1)) (by show spl (hi - lo) < m; omega) (by show m < 2 * spl (hi - lo); omega))

/-- Complete, the old size no power of two, and not the whole unless the whole is a power of two: the ranges make up the whole. -/
theorem rng_total_not (f : Nat) : ∀ m lo hi, 1 ≤ m → m ≤ hi - lo → hi - lo ≤ 2 ^ f → ¬ m.isPowerOfTwo → (m < hi - lo ∨ (hi - lo).isPowerOfTwo) →
    total (rng f m lo hi true) = hi - lo := by
  induction f with
  | zero =>
    intro m lo hi h1 h2 h3 hm hq
    exact absurd (⟨0, by simp; omega⟩ : m.isPowerOfTwo) hm
  | succ f ih =>
    intro m lo hi h1 h2 h3 hm hq
    by_cases h : m = hi - lo
    · rcases hq with hq | hq
      · omega
      · rw [← h] at hq; exact absurd hq hm
    have hlt := spl_lt (n := hi - lo) (by omega)
    have hle := le_spl (n := hi - lo) (by omega)
    have hp := spl_pos (hi - lo)
    have hf := spl_le (n := hi - lo) (f := f) (by omega) h3
    by_cases hk : m ≤ spl (hi - lo)
    · rw [rng_left _ _ _ _ _ h hk, total_append, ih _ _ _ h1 (by omega) (by omega) hm (.inr (by rw [show lo + spl (hi - lo) - lo = spl (hi - lo) from by omega]; exact spl_pow _))]
      simp [total]; omega
    · rw [rng_right _ _ _ _ _ h hk, total_append, rng_total_false _ _ _ _ (by omega) (by omega) (by omega)]; simp [total]; omega

/-- At least one range where the old tree is smaller. -/
theorem rng_ne (f m lo hi : Nat) (c : Bool) (h : m ≠ hi - lo) : 0 < (rng (f + 1) m lo hi c).length := by
  by_cases hk : m ≤ spl (hi - lo)
  · rw [rng_left _ _ _ _ _ h hk]; simp
  · rw [rng_right _ _ _ _ _ h hk]; simp

end Go.Proofs.Ybulkcyrc.Plain
