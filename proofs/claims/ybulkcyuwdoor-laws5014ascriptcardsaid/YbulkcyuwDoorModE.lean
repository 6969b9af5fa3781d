/-
  floorMod at whole numbers up to 71: each round of the loop reckoned, the loop by induction.
-/
import Derived.Test.YbulkcyuwDoorLibD
namespace Go.Proofs.YbulkcyuwDoor
open Ieee

/-- The word of the whole number n. -/
def wn (n : Nat) : Nat := double.nearest false n 0

def stepOk (M n : Nat) : Bool := match modStep (wn M) (wn n) with
  | some r => match (double.read r).toInt .zero with
    | some k => decide (0 ≤ k) && decide (k < M) && (r == wn k.toNat) && decide (r < wn M)
    | none => false
  | none => false
def stepAll (lo hi : Nat) : Bool := (List.range (hi - lo)).all fun i => (List.range (lo + i)).all fun j => stepOk (lo + i) (j + 1)
theorem stepAll_0 : stepAll 0 24 = true := by kernel_rfl
theorem stepAll_1 : stepAll 24 36 = true := by kernel_rfl
theorem stepAll_2 : stepAll 36 48 = true := by kernel_rfl
theorem stepAll_3 : stepAll 48 60 = true := by kernel_rfl
theorem stepAll_4 : stepAll 60 72 = true := by kernel_rfl

theorem stepAll_at {lo hi M n : Nat} (h : stepAll lo hi = true) (h1 : lo ≤ M) (h2 : M < hi) (h3 : 1 ≤ n) (h4 : n ≤ M) : stepOk M n = true := by
  unfold stepAll at h
  rw [List.all_eq_true] at h
  have a1 := h (M - lo) (List.mem_range.2 (by omega))
  rw [List.all_eq_true] at a1
  have a2 := a1 (n - 1) (List.mem_range.2 (by omega))
  rw [show lo + (M - lo) = M from by omega, show n - 1 + 1 = n from by omega] at a2
  exact a2
theorem stepOk_at {M n : Nat} (h2 : M < 72) (h3 : 1 ≤ n) (h4 : n ≤ M) : stepOk M n = true := by
  rcases Nat.lt_or_ge M 24 with h | h
  · exact stepAll_at stepAll_0 (by omega) h h3 h4
  rcases Nat.lt_or_ge M 36 with h' | h'
  · exact stepAll_at stepAll_1 h h' h3 h4
  rcases Nat.lt_or_ge M 48 with h'' | h''
  · exact stepAll_at stepAll_2 h' h'' h3 h4
  rcases Nat.lt_or_ge M 60 with h3' | h3'
  · exact stepAll_at stepAll_3 h'' h3' h3 h4
  · exact stepAll_at stepAll_4 h3' h2 h3 h4

def oneOk (M : Nat) : Bool := (M == 0 || okN (wn M)) && (absW (wn M) == wn M) && (fneg (double.nearest true M 0) == wn M) && (fneg (wn M) == double.nearest true M 0)
theorem oneAll : ((List.range 72).all oneOk) = true := by kernel_rfl
theorem one_at {M : Nat} (h : M < 72) : (M = 0 ∨ okN (wn M) = true) ∧ absW (wn M) = wn M ∧ fneg (double.nearest true M 0) = wn M ∧ fneg (wn M) = double.nearest true M 0 := by
  have a := oneAll
  rw [List.all_eq_true] at a
  have := a M (List.mem_range.2 h)
  simp only [oneOk, Bool.and_eq_true, Bool.or_eq_true, beq_iff_eq] at this
  exact ⟨this.1.1.1, this.1.1.2, this.1.2, this.2⟩

/-- The sum that makes a negative remainder whole. -/
def backOk (n : Nat) : Bool := (List.range n).all fun j => fa (double.nearest true (j + 1) 0) (wn (n + 1)) == some (wn (n - j))
theorem backAll : ((List.range 72).all backOk) = true := by kernel_rfl
theorem back_at {M n : Nat} (h : n < 72) (h1 : 1 ≤ M) (h2 : M < n) : fa (double.nearest true M 0) (wn n) = some (wn (n - M)) := by
  have a := backAll
  rw [List.all_eq_true] at a
  have a1 := a (n - 1) (List.mem_range.2 (by omega))
  unfold backOk at a1
  rw [List.all_eq_true] at a1
  have a2 := a1 (M - 1) (List.mem_range.2 (by omega))
  simp only [beq_iff_eq] at a2
  rw [show M - 1 + 1 = M from by omega, show n - 1 + 1 = n from by omega, show n - 1 - (M - 1) = n - M from by omega] at a2
  exact a2

theorem wn_fine {M : Nat} (h : M < 72) : Fine (wn M) ∧ val (wn M) = (M : Int) * scale := by
  have := whole_exact (s := false) (M := M) (by omega)
  exact this
theorem fge_wn {M n : Nat} (h : M < 72) (h' : n < 72) : fgeB (wn M) (wn n) = decide (n ≤ M) := by
  rw [fgeB_fine (wn_fine h).1 (wn_fine h').1, (wn_fine h).2, (wn_fine h').2]
  have hs := scale_pos
  by_cases hc : n ≤ M
  · rw [decide_eq_true hc, decide_eq_true (Int.mul_le_mul_of_nonneg_right (by omega) (Int.le_of_lt hs))]
  · rw [decide_eq_false hc, decide_eq_false]
    have : (M : Int) * scale < (n : Int) * scale := Int.mul_lt_mul_of_pos_right (by omega) hs
    omega

theorem modRun_whole {n : Nat} (h1 : 1 ≤ n) (h2 : n < 72) : ∀ k M, M ≤ k → M < 72 → ∃ M', modRun k (wn M) (wn n) = some (wn M') ∧ M' < n
  | 0, M, hk, hM => by
    have e : M = 0 := by omega
    subst e
    refine ⟨0, ?_, by omega⟩
    unfold modRun
    rw [fge_wn (by omega) h2, if_neg (by simp; omega)]
  | k + 1, M, hk, hM => by
    unfold modRun
    rw [fge_wn hM h2]
    by_cases hc : n ≤ M
    · rw [if_pos (by simpa using hc)]
      have hok : okN (wn M) = true := by
        rcases (one_at hM).1 with e | e
        · omega
        · exact e
      rw [if_pos hok]
      have hst := stepOk_at hM h1 hc
      unfold stepOk at hst
      cases hms : modStep (wn M) (wn n) with
      | none => rw [hms] at hst; cases hst
      | some r =>
        rw [hms] at hst
        simp only at hst
        cases hti : (double.read r).toInt .zero with
        | none => rw [hti] at hst; cases hst
        | some q =>
          rw [hti] at hst
          simp only [Bool.and_eq_true, decide_eq_true_eq, beq_iff_eq] at hst
          obtain ⟨⟨⟨q0, q1⟩, q2⟩, q3⟩ := hst
          obtain ⟨M', hr, hlt⟩ := modRun_whole h1 h2 k q.toNat (by omega) (by omega)
          refine ⟨M', ?_, hlt⟩
          simp only [Option.bind_some]
          rw [if_pos q3, q2]; exact hr
    · rw [if_neg (by simpa using hc)]
      exact ⟨M, rfl, by omega⟩

theorem floorMod_bt {s : Bool} {M n : Nat} (hM : M < 72) (h1 : 1 ≤ n) (h2 : n ≤ 71) : ∃ r M', floorModF (double.nearest s M 0) (n : Int) = some r ∧ Fine r ∧ val r = ((M' : Nat) : Int) * scale ∧ M' < n := by
  have hfi : floatOfInt .f64 (n : Int) = wn n := rfl
  obtain ⟨hx, hv⟩ := whole_exact (s := s) (M := M) (by omega)
  have hn := one_at (M := n) (by omega)
  have hokn : okN (wn n) = true := by
    rcases hn.1 with e | e
    · omega
    · exact e
  unfold floorModF
  rw [hfi]
  have v0 : val 0 = 0 := by decide
  have hz : Fine 0 := fine_of (by kernel_rfl)
  have hs := scale_pos
  have hg : (fineB (double.nearest s M 0) && okN (absW (wn n)) && okN (wn n)) = true := by
    rw [hn.2.1, hokn, fineB_of hx]; rfl
  unfold modF
  rw [if_pos hg, hn.2.1, fltB_fine hx hz, hv, v0]
  obtain ⟨M', hrun, hlt⟩ := modRun_whole h1 (by omega : n < 72) 80 M (by omega) hM
  have hM' := whole_exact (s := true) (M := M') (by omega)
  have hM'f := whole_exact (s := false) (M := M') (by omega)
  by_cases hneg : sgn s M * scale < 0
  · rw [if_pos (decide_eq_true hneg)]
    have hst : s = true := by
      cases s
      · exfalso
        have : (0 : Int) ≤ sgn false M * scale := Int.mul_nonneg (by simp [sgn]) (Int.le_of_lt hs)
        omega
      · rfl
    subst hst
    rw [(one_at hM).2.2.1]
    simp only [hrun, Option.bind_some]
    rw [(one_at (M := M') (by omega)).2.2.2, fltB_fine hM'.1 hz, hM'.2, v0]
    by_cases h0 : M' = 0
    · subst h0
      rw [if_neg (by simp [sgn])]
      exact ⟨_, 0, rfl, hM'.1, by rw [hM'.2]; simp [sgn], by omega⟩
    · have hlt0 : sgn true M' * scale < 0 := by
        simp only [sgn, if_true, Int.neg_mul]
        have : (0 : Int) < (M' : Int) * scale := Int.mul_pos (by omega) hs
        omega
      rw [if_pos (decide_eq_true hlt0)]
      exact ⟨wn (n - M'), n - M', back_at (by omega) (by omega) hlt, (wn_fine (by omega)).1, (wn_fine (by omega)).2, by omega⟩
  · rw [if_neg (by simpa using hneg)]
    have hsame : modRun 80 (double.nearest s M 0) (wn n) = some (double.nearest (if M = 0 then s else false) (if M = 0 then 0 else M') 0) := by
      by_cases h0 : M = 0
      · subst h0
        rw [if_pos rfl, if_pos rfl]
        have hz0 : fgeB (double.nearest s 0 0) (wn n) = false := by
          rw [fgeB_fine hx (wn_fine (by omega)).1, hv, (wn_fine (M := n) (by omega)).2]
          refine decide_eq_false ?_
          have : (0 : Int) < (n : Int) * scale := Int.mul_pos (by omega) hs
          have : sgn s 0 = 0 := by cases s <;> rfl
          rw [this]; omega
        show (if fgeB (double.nearest s 0 0) (wn n) then _ else some (double.nearest s 0 0)) = _
        rw [hz0]; rfl
      · have hsf : s = false := by
          cases s
          · rfl
          · exfalso
            apply hneg
            simp only [sgn, if_true, Int.neg_mul]
            have : (0 : Int) < (M : Int) * scale := Int.mul_pos (by omega) hs
            omega
        subst hsf
        rw [if_neg h0, if_neg h0]; exact hrun
    rw [hsame]
    simp only [Option.bind_some]
    have hw := whole_exact (s := if M = 0 then s else false) (M := if M = 0 then 0 else M') (by split <;> omega)
    rw [fltB_fine hw.1 hz, hw.2, v0]
    have hnn : ¬ (sgn (if M = 0 then s else false) (if M = 0 then 0 else M') * scale < 0) := by
      by_cases h0 : M = 0
      · rw [if_pos h0, if_pos h0]; cases s <;> simp [sgn]
      · rw [if_neg h0, if_neg h0]
        have : (0 : Int) ≤ sgn false M' * scale := Int.mul_nonneg (by simp [sgn]) (Int.le_of_lt hs)
        omega
    rw [if_neg (by simpa using hnn)]
    refine ⟨_, if M = 0 then 0 else M', rfl, hw.1, ?_, by split <;> omega⟩
    rw [hw.2]
    by_cases h0 : M = 0
    · rw [if_pos h0, if_pos h0]; cases s <;> simp [sgn]
    · rw [if_neg h0, if_neg h0]; simp [sgn]
end Go.Proofs.YbulkcyuwDoor
