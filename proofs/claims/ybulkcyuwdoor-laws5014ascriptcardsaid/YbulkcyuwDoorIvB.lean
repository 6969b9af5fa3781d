/-
  Division, square root, floor, the whole part.
-/
import Derived.Test.YbulkcyuwDoorIv
namespace Go.Proofs.YbulkcyuwDoor
open Ieee

theorem sticky_ge {T D n : Nat} (hn : 0 < n) (h : T * n ≤ D) : 2 * T ≤ 2 * (D / n) + (D % n != 0).toNat := by
  have := (Nat.le_div_iff_mul_le hn).2 h
  omega

theorem sticky_le {T D n : Nat} (hn : 0 < n) (h : D ≤ T * n) : 2 * (D / n) + (D % n != 0).toNat ≤ 2 * T := by
  have hdm : n * (D / n) + D % n = D := Nat.div_add_mod D n
  by_cases hr : D % n = 0
  · have : D / n ≤ T := by
      refine Nat.le_of_mul_le_mul_left ?_ hn
      rw [Nat.mul_comm n T]; omega
    rw [hr]; simp only [bne_self_eq_false, Bool.toNat_false]; omega
  · have : D / n < T := by
      refine Nat.lt_of_mul_lt_mul_left (a := n) ?_
      rw [Nat.mul_comm n T]; omega
    have hb : ∀ b : Bool, b.toNat ≤ 1 := by decide
    have := hb (D % n != 0)
    omega

/-- The quotient's significand, with its sticky digit. -/
def quoQ (m n : Nat) : Nat := 2 * ((m <<< (54 + n.log2 - m.log2)) / n) + ((m <<< (54 + n.log2 - m.log2)) % n != 0).toNat

theorem quo_big {m n : Nat} (hm : m ≠ 0) (hm2 : m < 2 ^ 54) : 2 ^ 53 * n ≤ m * 2 ^ (54 + n.log2 - m.log2) := by
  have h1 : 2 ^ m.log2 ≤ m := Nat.log2_self_le hm
  have h2 : n < 2 ^ (n.log2 + 1) := Nat.lt_log2_self
  have h3 : m.log2 < 54 := (Nat.log2_lt hm).2 hm2
  calc 2 ^ 53 * n ≤ 2 ^ 53 * 2 ^ (n.log2 + 1) := Nat.mul_le_mul_left _ (Nat.le_of_lt h2)
    _ = 2 ^ m.log2 * 2 ^ (54 + n.log2 - m.log2) := by rw [← pow_split, ← pow_split]; congr 1; omega
    _ ≤ m * 2 ^ (54 + n.log2 - m.log2) := Nat.mul_le_mul_right _ h1

theorem div_lo {m n ei ej L U : Nat} (hn : 0 < n) (hm2 : m < 2 ^ 54) (h : mag L * (n * 2 ^ ej) ≤ m * 2 ^ ei * 2 ^ U) :
    mag L * 2 ^ (ej + (54 + n.log2 - m.log2) + 1) ≤ quoQ m n * 2 ^ (ei + U) := by
  by_cases hm : m = 0
  · subst hm
    have h0 : mag L * (n * 2 ^ ej) = 0 := by simpa using h
    have : mag L = 0 := by
      rcases Nat.mul_eq_zero.1 h0 with h | h
      · exact h
      · exact absurd h (Nat.ne_of_gt (Nat.mul_pos hn (Nat.two_pow_pos _)))
    rw [this]; simp
  · have hb := quo_big (n := n) hm hm2
    unfold quoQ
    rw [Nat.shiftLeft_eq]
    generalize hmo : 54 + n.log2 - m.log2 = more at *
    have hkl := keepK_lt L
    by_cases hc : ei + U ≤ stepE L + ej + more
    · obtain ⟨g, hg⟩ := Nat.exists_eq_add_of_le hc
      have hT : keepK L * 2 ^ g * n ≤ m * 2 ^ more := by
        refine Nat.le_of_mul_le_mul_right ?_ (Nat.two_pow_pos (ei + U))
        calc keepK L * 2 ^ g * n * 2 ^ (ei + U) = keepK L * n * 2 ^ (ei + U + g) := by rw [pow_split (ei + U) g]; ac_rfl
          _ = mag L * (n * 2 ^ ej) * 2 ^ more := by rw [← hg]; unfold mag; rw [pow_split, pow_split]; ac_rfl
          _ ≤ m * 2 ^ ei * 2 ^ U * 2 ^ more := Nat.mul_le_mul_right _ h
          _ = m * 2 ^ more * 2 ^ (ei + U) := by rw [pow_split ei U]; ac_rfl
      have h2 := sticky_ge hn hT
      calc mag L * 2 ^ (ej + more + 1) = 2 * (keepK L * 2 ^ g) * 2 ^ (ei + U) := by
            unfold mag
            rw [Nat.mul_assoc, ← pow_split, show stepE L + (ej + more + 1) = (ei + U) + g + 1 from by omega, pow_split ((ei + U) + g) 1, pow_split (ei + U) g]
            rw [show (2:Nat)^1 = 2 from rfl]; ac_rfl
        _ ≤ _ := Nat.mul_le_mul_right _ h2
    · have hT : 2 ^ 53 * n ≤ m * 2 ^ more := hb
      have h2 := sticky_ge hn hT
      calc mag L * 2 ^ (ej + more + 1) ≤ 2 ^ 53 * 2 ^ (stepE L + (ej + more + 1)) := by
            unfold mag; rw [Nat.mul_assoc, ← pow_split]; exact Nat.mul_le_mul_right _ (Nat.le_of_lt hkl)
        _ ≤ 2 ^ 53 * 2 ^ (ei + U) := Nat.mul_le_mul_left _ (pow_mono (by omega))
        _ ≤ 2 * 2 ^ 53 * 2 ^ (ei + U) := Nat.mul_le_mul_right _ (by omega)
        _ ≤ _ := Nat.mul_le_mul_right _ h2

theorem div_hi {m n ei ej H U : Nat} (hn : 0 < n) (hm2 : m < 2 ^ 54) (h : m * 2 ^ ei * 2 ^ U ≤ mag H * (n * 2 ^ ej)) :
    quoQ m n * 2 ^ (ei + U) ≤ mag H * 2 ^ (ej + (54 + n.log2 - m.log2) + 1) := by
  by_cases hm : m = 0
  · subst hm
    have : quoQ 0 n = 0 := by unfold quoQ; simp
    rw [this]; simp
  · have hb := quo_big (n := n) hm hm2
    unfold quoQ
    rw [Nat.shiftLeft_eq]
    generalize hmo : 54 + n.log2 - m.log2 = more at *
    have hkl := keepK_lt H
    by_cases hc : ei + U ≤ stepE H + ej + more
    · obtain ⟨g, hg⟩ := Nat.exists_eq_add_of_le hc
      have hT : m * 2 ^ more ≤ keepK H * 2 ^ g * n := by
        refine Nat.le_of_mul_le_mul_right ?_ (Nat.two_pow_pos (ei + U))
        calc m * 2 ^ more * 2 ^ (ei + U) = m * 2 ^ ei * 2 ^ U * 2 ^ more := by rw [pow_split ei U]; ac_rfl
          _ ≤ mag H * (n * 2 ^ ej) * 2 ^ more := Nat.mul_le_mul_right _ h
          _ = keepK H * n * 2 ^ (ei + U + g) := by rw [← hg]; unfold mag; rw [pow_split, pow_split]; ac_rfl
          _ = keepK H * 2 ^ g * n * 2 ^ (ei + U) := by rw [pow_split (ei + U) g]; ac_rfl
      have h2 := sticky_le hn hT
      calc _ ≤ 2 * (keepK H * 2 ^ g) * 2 ^ (ei + U) := Nat.mul_le_mul_right _ h2
        _ = mag H * 2 ^ (ej + more + 1) := by
            unfold mag
            rw [Nat.mul_assoc (keepK H), ← pow_split, show stepE H + (ej + more + 1) = (ei + U) + g + 1 from by omega, pow_split ((ei + U) + g) 1, pow_split (ei + U) g]
            rw [show (2:Nat)^1 = 2 from rfl]; ac_rfl
    · exfalso
      have h1 : m * 2 ^ ei * 2 ^ U * 2 ^ more ≤ mag H * (n * 2 ^ ej) * 2 ^ more := Nat.mul_le_mul_right _ h
      have h2 : m * 2 ^ ei * 2 ^ U * 2 ^ more = m * 2 ^ more * 2 ^ (ei + U) := by rw [pow_split ei U]; ac_rfl
      have h3 : mag H * (n * 2 ^ ej) * 2 ^ more = keepK H * n * 2 ^ (stepE H + ej + more) := by unfold mag; rw [pow_split, pow_split]; ac_rfl
      have h4 : keepK H * n * 2 ^ (stepE H + ej + more) < 2 ^ 53 * n * 2 ^ (stepE H + ej + more) :=
        Nat.mul_lt_mul_of_pos_right (Nat.mul_lt_mul_of_pos_right hkl hn) (Nat.two_pow_pos _)
      have h5 : 2 ^ 53 * n * 2 ^ (stepE H + ej + more) ≤ 2 ^ 53 * n * 2 ^ (ei + U) := Nat.mul_le_mul_left _ (pow_mono (by omega))
      have h6 : 2 ^ 53 * n * 2 ^ (ei + U) ≤ m * 2 ^ more * 2 ^ (ei + U) := Nat.mul_le_mul_right _ hb
      omega


theorem pow_pos_int (k : Nat) : (0 : Int) < (2 : Int) ^ k := by rw [← cast_pow]; exact_mod_cast Nat.two_pow_pos k

theorem quo_read (s : Bool) {m n : Nat} (hn : 0 < n) (i j : Int) :
    ((Datum.number s m i).quotient (double.fractionBits + 2) (Datum.number false n j)).map double.write = some (double.nearest s (quoQ m n) (i - j - ((54 + n.log2 - m.log2 : Nat) : Int) - 1)) := by
  have e : double.fractionBits + 2 = 54 := rfl
  rw [e]
  simp only [Datum.quotient, if_neg (Nat.ne_of_gt hn), Option.map, Format.write, Bool.xor_false, quoQ]

theorem div_near {x y L H : Nat} (hx : Fine x) (hy : Fine y) (hpos : 0 < val y) (hL : Fine L) (hH : Fine H) (h1 : val L * val y ≤ val x * scale) (h2 : val x * scale ≤ val H * val y) :
    ∃ r, floatBits .quo .f64 x y = some r ∧ Bt L r H := by
  show ∃ r, double.div x y = some r ∧ Bt L r H
  unfold Format.div
  rw [read_fine hx, read_fine hy]
  obtain ⟨U, hU, _, hs⟩ := scale_ex
  rw [hs] at h1 h2
  rw [val_read (w := x)] at h1 h2
  have hkx := keepK_lt (x % 2 ^ 63)
  rw [val_read (w := y)] at h1 h2 hpos
  have ht : (y / 2 ^ 63 % 2 == 1) = false := by
    rcases hb : (y / 2 ^ 63 % 2 == 1) with _ | _
    · rfl
    · exfalso; rw [hb] at hpos; simp only [sgn, if_true, Int.neg_mul] at hpos
      have : (0 : Int) ≤ (keepK (y % 2 ^ 63) : Int) * 2 ^ stepE (y % 2 ^ 63) := Int.mul_nonneg (by omega) (Int.le_of_lt (pow_pos_int _))
      omega
  rw [ht] at h1 h2 hpos ⊢
  simp only [sgn, Bool.false_eq_true, if_false] at h1 h2 hpos
  generalize (x / 2 ^ 63 % 2 == 1) = s at *
  generalize keepK (x % 2 ^ 63) = m at *
  generalize keepK (y % 2 ^ 63) = n at *
  generalize stepE (x % 2 ^ 63) = ei at *
  generalize stepE (y % 2 ^ 63) = ej at *
  have hn : 0 < n := by
    rcases Nat.eq_zero_or_pos n with h0 | h0
    · subst h0; simp at hpos
    · exact h0
  have hm2 : m < 2 ^ 54 := Nat.lt_of_lt_of_le hkx (by decide)
  refine ⟨double.nearest s (quoQ m n) (-1074 + (ei : Int) - (-1074 + (ej : Int)) - ((54 + n.log2 - m.log2 : Nat) : Int) - 1), ?_, ?_⟩
  · exact quo_read s hn _ _
  · have hab : ((ei + U : Nat) : Int) - ((ej + (54 + n.log2 - m.log2) + 1 : Nat) : Int) = (-1074 + (ei : Int) - (-1074 + (ej : Int)) - ((54 + n.log2 - m.log2 : Nat) : Int) - 1) + 1074 := by omega
    have g1 : val L ≤ val (double.nearest s (quoQ m n) (-1074 + (ei : Int) - (-1074 + (ej : Int)) - ((54 + n.log2 - m.log2 : Nat) : Int) - 1)) := by
      refine nearest_ge hL hab ?_
      have hpa := pow_pos_int (ej + (54 + n.log2 - m.log2) + 1)
      have hpb := pow_pos_int (ei + U)
      cases s
      · simp only [sgn, Bool.false_eq_true, if_false] at h1 ⊢
        rcases val_cases L with e | e
        · rw [e] at h1 ⊢
          have h1' : mag (L % 2 ^ 63) * (n * 2 ^ ej) ≤ m * 2 ^ ei * 2 ^ U := by
            simp only [← cast_pow] at h1; exact_mod_cast h1
          have := div_lo hn hm2 h1'
          simp only [← cast_pow]; exact_mod_cast this
        · rw [e, Int.neg_mul]
          have a1 : (0 : Int) ≤ (mag (L % 2 ^ 63) : Int) * 2 ^ (ej + (54 + n.log2 - m.log2) + 1) := Int.mul_nonneg (by omega) (Int.le_of_lt hpa)
          have a2 : (0 : Int) ≤ (quoQ m n : Int) * 2 ^ (ei + U) := Int.mul_nonneg (by omega) (Int.le_of_lt hpb)
          omega
      · simp only [sgn, if_true] at h1 ⊢
        have hu : m * 2 ^ ei * 2 ^ U ≤ mag (L % 2 ^ 63) * (n * 2 ^ ej) ∧ (val L = -(mag (L % 2 ^ 63) : Int) ∨ (val L = 0 ∧ m = 0)) := by
          rcases val_cases L with e | e
          · rw [e] at h1
            have a1 : (0 : Int) ≤ (mag (L % 2 ^ 63) : Int) * ((n : Int) * 2 ^ ej) := Int.mul_nonneg (by omega) (Int.mul_nonneg (by omega) (Int.le_of_lt (pow_pos_int _)))
            have a2 : (0 : Int) ≤ (m : Int) * 2 ^ ei * 2 ^ U := Int.mul_nonneg (Int.mul_nonneg (by omega) (Int.le_of_lt (pow_pos_int _))) (Int.le_of_lt (pow_pos_int _))
            rw [Int.neg_mul, Int.neg_mul] at h1
            have a3 : (m : Int) * 2 ^ ei * 2 ^ U = 0 := by omega
            have hm0 : m = 0 := by
              rcases Int.mul_eq_zero.1 a3 with h | h
              · rcases Int.mul_eq_zero.1 h with h | h
                · exact_mod_cast h
                · exact absurd h (Int.ne_of_gt (pow_pos_int _))
              · exact absurd h (Int.ne_of_gt (pow_pos_int _))
            have a4 : (mag (L % 2 ^ 63) : Int) * ((n : Int) * 2 ^ ej) = 0 := by omega
            have hl0 : (mag (L % 2 ^ 63) : Int) = 0 := by
              rcases Int.mul_eq_zero.1 a4 with h | h
              · exact h
              · rcases Int.mul_eq_zero.1 h with h | h
                · omega
                · exact absurd h (Int.ne_of_gt (pow_pos_int _))
            refine ⟨by rw [hm0]; simp, .inr ⟨by rw [e]; exact hl0, hm0⟩⟩
          · rw [e] at h1
            rw [Int.neg_mul, Int.neg_mul, Int.neg_mul] at h1
            have h3 := Int.neg_le_neg_iff.1 h1
            refine ⟨?_, .inl e⟩
            simp only [← cast_pow] at h3; exact_mod_cast h3
        have := div_hi hn hm2 hu.1
        have hcast : ((quoQ m n : Int)) * 2 ^ (ei + U) ≤ (mag (L % 2 ^ 63) : Int) * 2 ^ (ej + (54 + n.log2 - m.log2) + 1) := by
          simp only [← cast_pow]; exact_mod_cast this
        rcases hu.2 with e | ⟨e, hm0⟩
        · rw [e, Int.neg_mul, Int.neg_mul]; omega
        · have hq : quoQ m n = 0 := by rw [hm0]; unfold quoQ; simp
          rw [e, hq]; simp
    have g2 : val (double.nearest s (quoQ m n) (-1074 + (ei : Int) - (-1074 + (ej : Int)) - ((54 + n.log2 - m.log2 : Nat) : Int) - 1)) ≤ val H := by
      refine nearest_le hH hab ?_
      have hpa := pow_pos_int (ej + (54 + n.log2 - m.log2) + 1)
      have hpb := pow_pos_int (ei + U)
      cases s
      · simp only [sgn, Bool.false_eq_true, if_false] at h2 ⊢
        have hu : m * 2 ^ ei * 2 ^ U ≤ mag (H % 2 ^ 63) * (n * 2 ^ ej) ∧ (val H = (mag (H % 2 ^ 63) : Int) ∨ (val H = 0 ∧ m = 0)) := by
          rcases val_cases H with e | e
          · rw [e] at h2
            refine ⟨?_, .inl e⟩
            simp only [← cast_pow] at h2; exact_mod_cast h2
          · rw [e, Int.neg_mul] at h2
            have a1 : (0 : Int) ≤ (mag (H % 2 ^ 63) : Int) * ((n : Int) * 2 ^ ej) := Int.mul_nonneg (by omega) (Int.mul_nonneg (by omega) (Int.le_of_lt (pow_pos_int _)))
            have a2 : (0 : Int) ≤ (m : Int) * 2 ^ ei * 2 ^ U := Int.mul_nonneg (Int.mul_nonneg (by omega) (Int.le_of_lt (pow_pos_int _))) (Int.le_of_lt (pow_pos_int _))
            have a3 : (m : Int) * 2 ^ ei * 2 ^ U = 0 := by omega
            have hm0 : m = 0 := by
              rcases Int.mul_eq_zero.1 a3 with h | h
              · rcases Int.mul_eq_zero.1 h with h | h
                · exact_mod_cast h
                · exact absurd h (Int.ne_of_gt (pow_pos_int _))
              · exact absurd h (Int.ne_of_gt (pow_pos_int _))
            have a4 : (mag (H % 2 ^ 63) : Int) * ((n : Int) * 2 ^ ej) = 0 := by omega
            have hl0 : (mag (H % 2 ^ 63) : Int) = 0 := by
              rcases Int.mul_eq_zero.1 a4 with h | h
              · exact h
              · rcases Int.mul_eq_zero.1 h with h | h
                · omega
                · exact absurd h (Int.ne_of_gt (pow_pos_int _))
            refine ⟨by rw [hm0]; simp, .inr ⟨by rw [e]; omega, hm0⟩⟩
        have := div_hi hn hm2 hu.1
        have hcast : ((quoQ m n : Int)) * 2 ^ (ei + U) ≤ (mag (H % 2 ^ 63) : Int) * 2 ^ (ej + (54 + n.log2 - m.log2) + 1) := by
          simp only [← cast_pow]; exact_mod_cast this
        rcases hu.2 with e | ⟨e, hm0⟩
        · rw [e]; exact hcast
        · have hq : quoQ m n = 0 := by rw [hm0]; unfold quoQ; simp
          rw [e, hq]; simp
      · simp only [sgn, if_true] at h2 ⊢
        rcases val_cases H with e | e
        · rw [e, Int.neg_mul]
          have a1 : (0 : Int) ≤ (mag (H % 2 ^ 63) : Int) * 2 ^ (ej + (54 + n.log2 - m.log2) + 1) := Int.mul_nonneg (by omega) (Int.le_of_lt hpa)
          have a2 : (0 : Int) ≤ (quoQ m n : Int) * 2 ^ (ei + U) := Int.mul_nonneg (by omega) (Int.le_of_lt hpb)
          omega
        · rw [e] at h2 ⊢
          rw [Int.neg_mul, Int.neg_mul, Int.neg_mul] at h2
          have h3 := Int.neg_le_neg_iff.1 h2
          have h1' : mag (H % 2 ^ 63) * (n * 2 ^ ej) ≤ m * 2 ^ ei * 2 ^ U := by
            simp only [← cast_pow] at h3; exact_mod_cast h3
          have := div_lo hn hm2 h1'
          have hcast : (mag (H % 2 ^ 63) : Int) * 2 ^ (ej + (54 + n.log2 - m.log2) + 1) ≤ ((quoQ m n : Int)) * 2 ^ (ei + U) := by
            simp only [← cast_pow]; exact_mod_cast this
          rw [Int.neg_mul, Int.neg_mul]; omega
    exact ⟨nearest_fine hL hH g1 g2, g1, g2⟩

end Go.Proofs.YbulkcyuwDoor
