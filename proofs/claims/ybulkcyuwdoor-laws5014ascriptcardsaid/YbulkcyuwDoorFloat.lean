/-
  Rounding to nearest is monotone: bounds of float64 results by bounds of exact ones. No Go in sight.
-/
import Derived.Laws.FloatArith
namespace Go.Proofs.YbulkcyuwDoor
open Ieee

/-- The binade step of a rung, its significand, its magnitude in units of 2 ^ -1074. -/
def stepE (r : Nat) : Nat := r / 2 ^ 52 - 1
def keepK (r : Nat) : Nat := r - stepE r * 2 ^ 52
def mag (r : Nat) : Nat := keepK r * 2 ^ stepE r

theorem rung_split (r : Nat) : r = stepE r * 2 ^ 52 + keepK r := by unfold keepK stepE; omega
theorem keepK_lt (r : Nat) : keepK r < 2 ^ 53 := by unfold keepK stepE; omega
theorem keepK_ge {r : Nat} (h : 0 < stepE r) : 2 ^ 52 ≤ keepK r := by unfold keepK; unfold stepE at *; omega

theorem pow_split (a b : Nat) : 2 ^ (a + b) = 2 ^ a * 2 ^ b := Nat.pow_add 2 a b
theorem pow_mono {a b : Nat} (h : a ≤ b) : 2 ^ a ≤ 2 ^ b := Nat.pow_le_pow_right (by decide) h

theorem cut_ge {t n d : Nat} (neg : Bool) (h : t * 2 ^ d ≤ n) : t ≤ Toward.even.cut neg n d := by
  unfold Toward.cut
  simp only [Nat.one_shiftLeft]
  by_cases hd : d ≤ n.log2 + 2
  · rw [Nat.min_eq_left hd]
    have : t ≤ n / 2 ^ d := (Nat.le_div_iff_mul_le (Nat.two_pow_pos d)).2 h
    omega
  · have hn : n < 2 ^ (n.log2 + 1) := Nat.lt_log2_self
    have : 2 ^ (n.log2 + 1) ≤ 2 ^ d := pow_mono (by omega)
    have ht : t = 0 := by
      rcases Nat.eq_zero_or_pos t with h0 | h0
      · exact h0
      · have : 1 * 2 ^ d ≤ t * 2 ^ d := Nat.mul_le_mul_right _ h0
        omega
    rw [ht]; exact Nat.zero_le _

theorem cut_le {t n d : Nat} (neg : Bool) (h : n ≤ t * 2 ^ d) : Toward.even.cut neg n d ≤ t := by
  unfold Toward.cut
  simp only [Nat.one_shiftLeft]
  by_cases hd : d ≤ n.log2 + 2
  · rw [Nat.min_eq_left hd]
    have hp : 0 < 2 ^ d := Nat.two_pow_pos d
    have hdm : 2 ^ d * (n / 2 ^ d) + n % 2 ^ d = n := Nat.div_add_mod n (2 ^ d)
    by_cases hr : n % 2 ^ d = 0
    · have e : (decide (2 ^ d < 2 * (n % 2 ^ d)) || (2 ^ d == 2 * (n % 2 ^ d) && n / 2 ^ d % 2 == 1)) = false := by
        rw [hr]; simp
      rw [e]
      have : n / 2 ^ d ≤ t := by
        rw [hr] at hdm
        refine Nat.le_of_mul_le_mul_left ?_ hp
        rw [Nat.mul_comm (2 ^ d) t]; omega
      simpa using this
    · have : n / 2 ^ d < t := by
        refine Nat.lt_of_mul_lt_mul_left (a := 2 ^ d) ?_
        rw [Nat.mul_comm (2 ^ d) t]; omega
      have hb : ∀ b : Bool, b.toNat ≤ 1 := by decide
      have := hb (decide (2 ^ d < 2 * (n % 2 ^ d)) || (2 ^ d == 2 * (n % 2 ^ d) && n / 2 ^ d % 2 == 1))
      omega
  · rw [Nat.min_eq_right (by omega)]
    have hn : n < 2 ^ (n.log2 + 1) := Nat.lt_log2_self
    have h2 : 2 ^ (n.log2 + 2) = 2 * 2 ^ (n.log2 + 1) := by rw [Nat.pow_succ]; omega
    have hm : n % 2 ^ (n.log2 + 2) = n := Nat.mod_eq_of_lt (by omega)
    have hz : n / 2 ^ (n.log2 + 2) = 0 := Nat.div_eq_of_lt (by omega)
    rw [hm, hz, h2]
    have e : (decide (2 * 2 ^ (n.log2 + 1) < 2 * n) || (2 * 2 ^ (n.log2 + 1) == 2 * n && 0 % 2 == 1)) = false := by
      simp; omega
    rw [e]; simp

/-- The rung that 'nearest' finds. -/
def nearR (m : Nat) (p : Int) : Nat :=
  if m = 0 then 0 else
  min ((max (p + m.log2 - 52) (-1074) + 1074).toNat * 2 ^ 52 + Toward.even.cut false (m <<< (p - max (p + m.log2 - 52) (-1074)).toNat) (max (p + m.log2 - 52) (-1074) - p).toNat) (2047 * 2 ^ 52)

theorem cut_neg (neg : Bool) (n d : Nat) : Toward.even.cut neg n d = Toward.even.cut false n d := rfl

theorem nearest_eq (neg : Bool) (m : Nat) (p : Int) : double.nearest neg m p = double.word neg (nearR m p) := by
  unfold Format.nearest nearR
  by_cases h : m = 0
  · simp [h]
  · simp only [if_neg h, cut_neg neg]
    have e1 : double.leastPlace = -1074 := by decide
    have e2 : (double.fractionBits : Int) = 52 := rfl
    have e3 : double.binade = 2 ^ 52 := rfl
    have e4 : double.infRung = 2047 * 2 ^ 52 := by decide
    rw [e1, e2, e3, e4]
    rw [show ∀ x : Int, x - -1074 = x + 1074 from fun x => by omega]

/-- THE LOWER BOUND: a finite rung below the exact number is below the rung found. -/
theorem nearR_ge {m L a b : Nat} {p : Int} (hL : L ≤ 2047 * 2 ^ 52) (hab : (b : Int) - a = p + 1074) (h : mag L * 2 ^ a ≤ m * 2 ^ b) : L ≤ nearR m p := by
  unfold nearR
  by_cases hm : m = 0
  · subst hm
    have h0 : mag L * 2 ^ a = 0 := by omega
    have h1 : mag L = 0 := by
      rcases Nat.mul_eq_zero.1 h0 with h | h
      · exact h
      · exact absurd h (Nat.ne_of_gt (Nat.two_pow_pos a))
    have h2 : keepK L = 0 := by
      unfold mag at h1
      rcases Nat.mul_eq_zero.1 h1 with h | h
      · exact h
      · exact absurd h (Nat.ne_of_gt (Nat.two_pow_pos _))
    have := rung_split L
    by_cases hs : 0 < stepE L
    · have := keepK_ge hs; omega
    · simp; rw [this, h2]; simp; omega
  · rw [if_neg hm]
    have hm1 : 2 ^ m.log2 ≤ m := Nat.log2_self_le hm
    have hm2 : m < 2 ^ (m.log2 + 1) := Nat.lt_log2_self
    generalize hl : max (p + m.log2 - 52) (-1074) = last
    generalize hu : (p - last).toNat = u
    generalize hd : (last - p).toNat = d
    generalize he : (last + 1074).toNat = e
    rw [Nat.shiftLeft_eq]
    refine Nat.le_min.2 ⟨?_, hL⟩
    have hsp := rung_split L
    have hkl := keepK_lt L
    rcases Nat.lt_trichotomy (stepE L) e with hc | hc | hc
    · -- below: the found significand is full
      have hk : 2 ^ 52 ≤ Toward.even.cut false (m * 2 ^ u) d := by
        refine cut_ge false ?_
        rw [← pow_split]
        have : 52 + d = m.log2 + u := by omega
        rw [this, pow_split]
        exact Nat.mul_le_mul_right _ hm1
      have : (stepE L + 1) * 2 ^ 52 ≤ e * 2 ^ 52 := Nat.mul_le_mul_right _ hc
      omega
    · have hk : keepK L ≤ Toward.even.cut false (m * 2 ^ u) d := by
        refine cut_ge false ?_
        have hq : d + b = u + (a + e) := by omega
        refine Nat.le_of_mul_le_mul_right ?_ (Nat.two_pow_pos (a + e))
        calc keepK L * 2 ^ d * 2 ^ (a + e) = keepK L * 2 ^ e * 2 ^ a * 2 ^ d := by
              rw [pow_split a e]; ac_rfl
          _ ≤ m * 2 ^ b * 2 ^ d := by
              refine Nat.mul_le_mul_right _ ?_
              unfold mag at h; rw [hc] at h; exact h
          _ = m * 2 ^ u * 2 ^ (a + e) := by
              rw [Nat.mul_assoc, Nat.mul_assoc, ← pow_split, ← pow_split, ← hq, Nat.add_comm b d]
      rw [hc] at hsp; omega
    · exfalso
      have hk := keepK_ge (r := L) (by omega)
      have h1 : 2 ^ (52 + stepE L + a) ≤ mag L * 2 ^ a := by
        unfold mag
        rw [pow_split, pow_split]
        exact Nat.mul_le_mul_right _ (Nat.mul_le_mul_right _ hk)
      have h2 : m * 2 ^ b < 2 ^ (m.log2 + 1) * 2 ^ b := Nat.mul_lt_mul_of_pos_right hm2 (Nat.two_pow_pos b)
      have h3 : 2 ^ (m.log2 + 1) * 2 ^ b ≤ 2 ^ (52 + stepE L + a) := by
        rw [← pow_split]; exact pow_mono (by omega)
      omega

/-- THE UPPER BOUND. -/
theorem nearR_le {m H a b : Nat} {p : Int} (hab : (b : Int) - a = p + 1074) (h : m * 2 ^ b ≤ mag H * 2 ^ a) : nearR m p ≤ H := by
  unfold nearR
  by_cases hm : m = 0
  · simp [hm]
  · rw [if_neg hm]
    have hm1 : 2 ^ m.log2 ≤ m := Nat.log2_self_le hm
    have hm2 : m < 2 ^ (m.log2 + 1) := Nat.lt_log2_self
    generalize hl : max (p + m.log2 - 52) (-1074) = last
    generalize hu : (p - last).toNat = u
    generalize hd : (last - p).toNat = d
    generalize he : (last + 1074).toNat = e
    rw [Nat.shiftLeft_eq]
    refine Nat.le_trans (Nat.min_le_left _ _) ?_
    have hsp := rung_split H
    have hkl := keepK_lt H
    rcases Nat.lt_trichotomy (stepE H) e with hc | hc | hc
    · exfalso
      have h1 : mag H * 2 ^ a < 2 ^ (53 + stepE H + a) := by
        unfold mag
        rw [pow_split, pow_split]
        exact Nat.mul_lt_mul_of_pos_right (Nat.mul_lt_mul_of_pos_right hkl (Nat.two_pow_pos _)) (Nat.two_pow_pos a)
      have h2 : 2 ^ m.log2 * 2 ^ b ≤ m * 2 ^ b := Nat.mul_le_mul_right _ hm1
      have h3 : 2 ^ (53 + stepE H + a) ≤ 2 ^ m.log2 * 2 ^ b := by
        rw [← pow_split]; exact pow_mono (by omega)
      omega
    · have hk : Toward.even.cut false (m * 2 ^ u) d ≤ keepK H := by
        refine cut_le false ?_
        have hq : d + b = u + (a + e) := by omega
        refine Nat.le_of_mul_le_mul_right ?_ (Nat.two_pow_pos (a + e))
        calc m * 2 ^ u * 2 ^ (a + e) = m * 2 ^ b * 2 ^ d := by
              rw [Nat.mul_assoc, Nat.mul_assoc, ← pow_split, ← pow_split, ← hq, Nat.add_comm b d]
          _ ≤ keepK H * 2 ^ e * 2 ^ a * 2 ^ d := by
              refine Nat.mul_le_mul_right _ ?_
              unfold mag at h; rw [hc] at h; exact h
          _ = keepK H * 2 ^ d * 2 ^ (a + e) := by
              rw [pow_split a e]; ac_rfl
      rw [hc] at hsp; omega
    · have hk : Toward.even.cut false (m * 2 ^ u) d ≤ 2 ^ 53 := by
        refine cut_le false ?_
        have h1 : m * 2 ^ u < 2 ^ (m.log2 + 1) * 2 ^ u := Nat.mul_lt_mul_of_pos_right hm2 (Nat.two_pow_pos u)
        have h2 : 2 ^ (m.log2 + 1) * 2 ^ u ≤ 2 ^ 53 * 2 ^ d := by
          rw [← pow_split, ← pow_split]; exact pow_mono (by omega)
        omega
      have hk2 := keepK_ge (r := H) (by omega)
      have : (e + 1) * 2 ^ 52 ≤ stepE H * 2 ^ 52 := Nat.mul_le_mul_right _ hc
      omega

theorem mag_mono {r s : Nat} (h : r ≤ s) : mag r ≤ mag s := by
  by_cases he : stepE r = stepE s
  · unfold mag keepK; rw [he]; exact Nat.mul_le_mul_right _ (by omega)
  · have hlt : stepE r < stepE s := by unfold stepE at *; omega
    have h1 := keepK_lt r
    have h2 := keepK_ge (r := s) (by omega)
    have h3 : mag r ≤ 2 ^ (53 + stepE r) := by
      unfold mag; rw [pow_split]; exact Nat.mul_le_mul_right _ (by omega)
    have h4 : 2 ^ (52 + stepE s) ≤ mag s := by
      unfold mag; rw [pow_split]; exact Nat.mul_le_mul_right _ h2
    exact Nat.le_trans h3 (Nat.le_trans (pow_mono (by omega)) h4)

theorem mag_lt {r s : Nat} (h : r < s) : mag r < mag s := by
  by_cases he : stepE r = stepE s
  · unfold mag keepK; rw [he]; exact Nat.mul_lt_mul_of_pos_right (by have := rung_split s; have := rung_split r; unfold stepE at *; omega) (Nat.two_pow_pos _)
  · have hlt : stepE r < stepE s := by unfold stepE at *; omega
    have h1 := keepK_lt r
    have h2 := keepK_ge (r := s) (by omega)
    have h3 : mag r < 2 ^ (53 + stepE r) := by
      unfold mag; rw [pow_split]; exact Nat.mul_lt_mul_of_pos_right (by omega) (Nat.two_pow_pos _)
    have h4 : 2 ^ (52 + stepE s) ≤ mag s := by
      unfold mag; rw [pow_split]; exact Nat.mul_le_mul_right _ h2
    exact Nat.lt_of_lt_of_le h3 (Nat.le_trans (pow_mono (by omega)) h4)

end Go.Proofs.YbulkcyuwDoor
