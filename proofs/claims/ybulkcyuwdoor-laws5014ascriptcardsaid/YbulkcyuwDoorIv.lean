/-
  float64 words as signed numbers; the five operations, the six comparisons, floor: intervals with float ends.
-/
import Derived.Test.YbulkcyuwDoorFloat
namespace Go.Proofs.YbulkcyuwDoor
open Ieee

/-- The number of a word, in units of 2 ^ -1074. -/
def val (w : Nat) : Int := if w / 2 ^ 63 % 2 = 1 then -(mag (w % 2 ^ 63) : Int) else (mag (w % 2 ^ 63) : Int)

def unitE : Nat := 1074
/-- How many units make one. -/
def scale : Nat := 2 ^ unitE
theorem scale_ex : ∃ U : Nat, (U : Int) = 1074 ∧ scale = 2 ^ U ∧ (scale : Int) = (2 : Int) ^ U := ⟨unitE, rfl, rfl, by simp [scale]⟩

/-- A finite word. -/
def Fine (w : Nat) : Prop := w < 2 ^ 64 ∧ w % 2 ^ 63 < 2047 * 2 ^ 52

theorem read_fine {w : Nat} (h : Fine w) : double.read w = .number (w / 2 ^ 63 % 2 == 1) (keepK (w % 2 ^ 63)) (-1074 + stepE (w % 2 ^ 63)) := by
  unfold Format.read
  have e1 : double.leastPlace = -1074 := by decide
  have e3 : double.binade = 2 ^ 52 := rfl
  have e4 : double.infRung = 2047 * 2 ^ 52 := by decide
  have e5 : double.signWeight = 2 ^ 63 := rfl
  rw [e1, e3, e4, e5]
  have h2 := h.2
  generalize w % 2 ^ 63 = r at *
  generalize (w / 2 ^ 63 % 2 == 1) = s
  simp only
  by_cases hr : r < 2 ^ 52
  · rw [if_pos hr]
    have : stepE r = 0 := by unfold stepE; omega
    simp [keepK, this]
  · rw [if_neg hr, if_pos h2]
    have hk : 2 ^ 52 + r % 2 ^ 52 = keepK r := by unfold keepK stepE; omega
    rw [hk]; rfl

theorem word_val (neg : Bool) {r : Nat} (h : r < 2 ^ 63) : val (double.word neg r) = if neg then -(mag r : Int) else (mag r : Int) := by
  have e5 : double.signWeight = 2 ^ 63 := rfl
  unfold val Format.word
  cases neg
  · simp only [Bool.false_eq_true, if_false]
    rw [Nat.div_eq_of_lt h, Nat.mod_eq_of_lt h]; simp
  · simp only [if_true, e5]
    have h1 : (2 ^ 63 + r) / 2 ^ 63 = 1 := by omega
    have h2 : (2 ^ 63 + r) % 2 ^ 63 = r := by omega
    rw [h1, h2]; simp

theorem word_fine (neg : Bool) {r : Nat} (h : r < 2047 * 2 ^ 52) : Fine (double.word neg r) := by
  have e5 : double.signWeight = 2 ^ 63 := rfl
  unfold Fine Format.word
  cases neg
  · simp only [Bool.false_eq_true, if_false]; omega
  · simp only [if_true, e5]; omega

/-- The signed exact number. -/
def sgn (neg : Bool) (m : Nat) : Int := if neg then -(m : Int) else m

theorem val_cases (L : Nat) : val L = (mag (L % 2 ^ 63) : Int) ∨ val L = -(mag (L % 2 ^ 63) : Int) := by
  unfold val; split
  · exact .inr rfl
  · exact .inl rfl

theorem cast_pow (a : Nat) : ((2 ^ a : Nat) : Int) = (2 : Int) ^ a := by simp

theorem nearR_lt (m : Nat) (p : Int) : nearR m p ≤ 2047 * 2 ^ 52 := by
  unfold nearR; split
  · omega
  · exact Nat.min_le_right _ _

theorem nearest_ge {neg : Bool} {m L a b : Nat} {p : Int} (hL : Fine L) (hab : (b : Int) - a = p + 1074) (h : val L * 2 ^ a ≤ sgn neg m * 2 ^ b) : val L ≤ val (double.nearest neg m p) := by
  rw [nearest_eq, word_val neg (Nat.lt_of_le_of_lt (nearR_lt m p) (by decide))]
  have hpa : (0 : Int) < (2 : Int) ^ a := by rw [← cast_pow]; exact_mod_cast Nat.two_pow_pos a
  have hpb : (0 : Int) < (2 : Int) ^ b := by rw [← cast_pow]; exact_mod_cast Nat.two_pow_pos b
  cases neg
  · simp only [Bool.false_eq_true, if_false]
    rcases val_cases L with e | e
    · rw [e] at h ⊢
      simp only [sgn, Bool.false_eq_true, if_false] at h
      have h' : mag (L % 2 ^ 63) * 2 ^ a ≤ m * 2 ^ b := by
        rw [← cast_pow, ← cast_pow] at h; exact_mod_cast h
      exact_mod_cast mag_mono (nearR_ge (Nat.le_of_lt hL.2) hab h')
    · rw [e]; omega
  · simp only [if_true]
    simp only [sgn, if_true] at h
    rcases val_cases L with e | e
    · -- L is not negative: the exact number is nought
      rw [e] at h ⊢
      have h0 : (0 : Int) ≤ (mag (L % 2 ^ 63) : Int) * 2 ^ a := Int.mul_nonneg (by omega) (Int.le_of_lt hpa)
      have h1 : -(m : Int) * 2 ^ b = -((m : Int) * 2 ^ b) := Int.neg_mul ..
      have h2 : (0 : Int) ≤ (m : Int) * 2 ^ b := Int.mul_nonneg (by omega) (Int.le_of_lt hpb)
      have hm : (m : Int) * 2 ^ b = 0 := by omega
      have hm0 : m = 0 := by
        rcases Int.mul_eq_zero.1 hm with h | h
        · exact_mod_cast h
        · omega
      have hl : (mag (L % 2 ^ 63) : Int) * 2 ^ a = 0 := by omega
      have hl0 : mag (L % 2 ^ 63) = 0 := by
        rcases Int.mul_eq_zero.1 hl with h | h
        · exact_mod_cast h
        · omega
      rw [hl0, hm0]
      have : nearR 0 p = 0 := by unfold nearR; simp
      rw [this]; decide
    · rw [e] at h ⊢
      have h' : m * 2 ^ b ≤ mag (L % 2 ^ 63) * 2 ^ a := by
        rw [Int.neg_mul, Int.neg_mul] at h
        have h3 := Int.neg_le_neg_iff.1 h
        rw [← cast_pow, ← cast_pow] at h3; exact_mod_cast h3
      have := mag_mono (nearR_le hab h')
      omega

theorem nearest_le {neg : Bool} {m H a b : Nat} {p : Int} (hH : Fine H) (hab : (b : Int) - a = p + 1074) (h : sgn neg m * 2 ^ b ≤ val H * 2 ^ a) : val (double.nearest neg m p) ≤ val H := by
  rw [nearest_eq, word_val neg (Nat.lt_of_le_of_lt (nearR_lt m p) (by decide))]
  have hpa : (0 : Int) < (2 : Int) ^ a := by rw [← cast_pow]; exact_mod_cast Nat.two_pow_pos a
  have hpb : (0 : Int) < (2 : Int) ^ b := by rw [← cast_pow]; exact_mod_cast Nat.two_pow_pos b
  cases neg
  · simp only [Bool.false_eq_true, if_false]
    simp only [sgn, Bool.false_eq_true, if_false] at h
    rcases val_cases H with e | e
    · rw [e] at h ⊢
      have h' : m * 2 ^ b ≤ mag (H % 2 ^ 63) * 2 ^ a := by
        rw [← cast_pow, ← cast_pow] at h; exact_mod_cast h
      exact_mod_cast mag_mono (nearR_le hab h')
    · rw [e] at h ⊢
      have h0 : (0 : Int) ≤ (mag (H % 2 ^ 63) : Int) * 2 ^ a := Int.mul_nonneg (by omega) (Int.le_of_lt hpa)
      have h1 : -(mag (H % 2 ^ 63) : Int) * 2 ^ a = -((mag (H % 2 ^ 63) : Int) * 2 ^ a) := Int.neg_mul ..
      have h2 : (0 : Int) ≤ (m : Int) * 2 ^ b := Int.mul_nonneg (by omega) (Int.le_of_lt hpb)
      have hm : (m : Int) * 2 ^ b = 0 := by omega
      have hm0 : m = 0 := by
        rcases Int.mul_eq_zero.1 hm with h | h
        · exact_mod_cast h
        · omega
      have hl : (mag (H % 2 ^ 63) : Int) * 2 ^ a = 0 := by omega
      have hl0 : mag (H % 2 ^ 63) = 0 := by
        rcases Int.mul_eq_zero.1 hl with h | h
        · exact_mod_cast h
        · omega
      rw [hl0, hm0]
      have : nearR 0 p = 0 := by unfold nearR; simp
      rw [this]; decide
  · simp only [if_true]
    simp only [sgn, if_true] at h
    rcases val_cases H with e | e
    · rw [e]; omega
    · rw [e] at h ⊢
      have h' : mag (H % 2 ^ 63) * 2 ^ a ≤ m * 2 ^ b := by
        rw [Int.neg_mul, Int.neg_mul] at h
        have h3 := Int.neg_le_neg_iff.1 h
        rw [← cast_pow, ← cast_pow] at h3; exact_mod_cast h3
      have := mag_mono (nearR_ge (Nat.le_of_lt hH.2) hab h')
      omega

/-- Between two finite words the result is finite. -/
theorem mag_inj_lt {r s : Nat} (h : mag r ≤ mag s) : r ≤ s := by
  rcases Nat.lt_or_ge s r with hlt | hge
  · have := mag_lt hlt; omega
  · exact hge

theorem nearest_fine {neg : Bool} {m L H : Nat} {p : Int} (hL : Fine L) (hH : Fine H) (h1 : val L ≤ val (double.nearest neg m p)) (h2 : val (double.nearest neg m p) ≤ val H) : Fine (double.nearest neg m p) := by
  rw [nearest_eq] at *
  rw [word_val neg (Nat.lt_of_le_of_lt (nearR_lt m p) (by decide))] at h1 h2
  refine word_fine neg ?_
  cases neg
  · simp only [Bool.false_eq_true, if_false] at h1 h2
    rcases val_cases H with e | e
    · rw [e] at h2
      have : mag (nearR m p) ≤ mag (H % 2 ^ 63) := by exact_mod_cast h2
      exact Nat.lt_of_le_of_lt (mag_inj_lt this) hH.2
    · rw [e] at h2
      have : mag (nearR m p) ≤ mag (H % 2 ^ 63) := by omega
      exact Nat.lt_of_le_of_lt (mag_inj_lt this) hH.2
  · simp only [if_true] at h1 h2
    rcases val_cases L with e | e
    · rw [e] at h1
      have : mag (nearR m p) ≤ mag (L % 2 ^ 63) := by omega
      exact Nat.lt_of_le_of_lt (mag_inj_lt this) hL.2
    · rw [e] at h1
      have : mag (nearR m p) ≤ mag (L % 2 ^ 63) := by omega
      exact Nat.lt_of_le_of_lt (mag_inj_lt this) hL.2

/-- 'x lies between the words a and b'. -/
structure Bt (a x b : Nat) : Prop where
  fine : Fine x
  lo : val a ≤ val x
  hi : val x ≤ val b

theorem val_read {w : Nat} : val w = sgn (w / 2 ^ 63 % 2 == 1) (keepK (w % 2 ^ 63)) * 2 ^ stepE (w % 2 ^ 63) := by
  unfold val sgn mag
  by_cases h : w / 2 ^ 63 % 2 = 1
  · simp [h, Int.neg_mul]
  · simp [h]

theorem signed_eq (neg : Bool) (m u : Nat) : signed neg m u = sgn neg m * 2 ^ u := by
  unfold signed sgn
  rw [Nat.shiftLeft_eq]
  cases neg <;> simp [Int.neg_mul]

/-- THE EXACT SUM, written. -/
theorem sum_near {s t : Bool} {m n : Nat} {i j : Int} {L H : Nat} (hL : Fine L) (hH : Fine H) (hi : -1074 ≤ i) (hj : -1074 ≤ j)
    (h1 : val L ≤ sgn s m * 2 ^ (i + 1074).toNat + sgn t n * 2 ^ (j + 1074).toNat) (h2 : sgn s m * 2 ^ (i + 1074).toNat + sgn t n * 2 ^ (j + 1074).toNat ≤ val H) :
    ∃ r, ((Datum.number s m i).sum (Datum.number t n j)).map double.write = some r ∧ Bt L r H := by
  refine ⟨_, rfl, ?_⟩
  simp only [Format.write]
  generalize htot : signed s m (i - min i j).toNat + signed t n (j - min i j).toNat = total
  generalize hb : min i j = base at *
  have hsg : sgn (if total = 0 then s && t else decide (total < 0)) total.natAbs = total := by
    unfold sgn
    by_cases h0 : total = 0
    · subst h0; simp
    · rw [if_neg h0]
      by_cases hn : total < 0
      · simp [hn]; omega
      · simp [hn]; omega
  have hval : total * 2 ^ (base + 1074).toNat = sgn s m * 2 ^ (i + 1074).toNat + sgn t n * 2 ^ (j + 1074).toNat := by
    rw [← htot, signed_eq, signed_eq, Int.add_mul, Int.mul_assoc, Int.mul_assoc, ← Int.pow_add, ← Int.pow_add]
    rw [show (i - base).toNat + (base + 1074).toNat = (i + 1074).toNat from by omega, show (j - base).toNat + (base + 1074).toNat = (j + 1074).toNat from by omega]
  have hab : (((base + 1074).toNat : Nat) : Int) - (0 : Nat) = base + 1074 := by omega
  have g1 : val L ≤ val (double.nearest (if total = 0 then s && t else decide (total < 0)) total.natAbs base) :=
    nearest_ge hL hab (by rw [hsg, hval]; simpa using h1)
  have g2 : val (double.nearest (if total = 0 then s && t else decide (total < 0)) total.natAbs base) ≤ val H :=
    nearest_le hH hab (by rw [hsg, hval]; simpa using h2)
  exact ⟨nearest_fine hL hH g1 g2, g1, g2⟩

theorem add_near {x y L H : Nat} (hx : Fine x) (hy : Fine y) (hL : Fine L) (hH : Fine H) (h1 : val L ≤ val x + val y) (h2 : val x + val y ≤ val H) :
    ∃ r, floatBits .add .f64 x y = some r ∧ Bt L r H := by
  show ∃ r, double.add x y = some r ∧ Bt L r H
  unfold Format.add
  rw [read_fine hx, read_fine hy]
  rw [val_read (w := x), val_read (w := y)] at h1 h2
  refine sum_near hL hH (by omega) (by omega) ?_ ?_
  · rw [show (-1074 + (stepE (x % 2 ^ 63) : Int) + 1074).toNat = stepE (x % 2 ^ 63) from by omega, show (-1074 + (stepE (y % 2 ^ 63) : Int) + 1074).toNat = stepE (y % 2 ^ 63) from by omega]; exact h1
  · rw [show (-1074 + (stepE (x % 2 ^ 63) : Int) + 1074).toNat = stepE (x % 2 ^ 63) from by omega, show (-1074 + (stepE (y % 2 ^ 63) : Int) + 1074).toNat = stepE (y % 2 ^ 63) from by omega]; exact h2

theorem sgn_not (s : Bool) (m : Nat) : sgn (!s) m = -sgn s m := by cases s <;> simp [sgn]

theorem sub_near {x y L H : Nat} (hx : Fine x) (hy : Fine y) (hL : Fine L) (hH : Fine H) (h1 : val L ≤ val x - val y) (h2 : val x - val y ≤ val H) :
    ∃ r, floatBits .sub .f64 x y = some r ∧ Bt L r H := by
  show ∃ r, double.sub x y = some r ∧ Bt L r H
  unfold Format.sub
  rw [read_fine hx, read_fine hy]
  rw [val_read (w := x), val_read (w := y)] at h1 h2
  simp only [Datum.opposite]
  refine sum_near hL hH (by omega) (by omega) ?_ ?_
  · rw [show (-1074 + (stepE (x % 2 ^ 63) : Int) + 1074).toNat = stepE (x % 2 ^ 63) from by omega, show (-1074 + (stepE (y % 2 ^ 63) : Int) + 1074).toNat = stepE (y % 2 ^ 63) from by omega, sgn_not, Int.neg_mul]; exact h1
  · rw [show (-1074 + (stepE (x % 2 ^ 63) : Int) + 1074).toNat = stepE (x % 2 ^ 63) from by omega, show (-1074 + (stepE (y % 2 ^ 63) : Int) + 1074).toNat = stepE (y % 2 ^ 63) from by omega, sgn_not, Int.neg_mul]; exact h2

theorem sgn_mul (s t : Bool) (m n : Nat) : sgn (s ^^ t) (m * n) = sgn s m * sgn t n := by
  cases s <;> cases t <;> simp [sgn, Int.neg_mul, Int.mul_neg]

theorem mul_near {x y L H : Nat} (hx : Fine x) (hy : Fine y) (hL : Fine L) (hH : Fine H) (h1 : val L * scale ≤ val x * val y) (h2 : val x * val y ≤ val H * scale) :
    ∃ r, floatBits .mul .f64 x y = some r ∧ Bt L r H := by
  show ∃ r, double.mul x y = some r ∧ Bt L r H
  unfold Format.mul
  rw [read_fine hx, read_fine hy]
  refine ⟨_, rfl, ?_⟩
  simp only [Format.write]
  rw [val_read (w := x), val_read (w := y)] at h1 h2
  generalize (x / 2 ^ 63 % 2 == 1) = s at *
  generalize (y / 2 ^ 63 % 2 == 1) = t at *
  generalize keepK (x % 2 ^ 63) = m at *
  generalize keepK (y % 2 ^ 63) = n at *
  generalize stepE (x % 2 ^ 63) = i at *
  generalize stepE (y % 2 ^ 63) = j at *
  obtain ⟨U, hU, _, hs⟩ := scale_ex
  rw [hs] at h1 h2
  have hab : ((i + j : Nat) : Int) - (U : Nat) = (-1074 + (i : Int) + (-1074 + (j : Int))) + 1074 := by omega
  have he : sgn s m * 2 ^ i * (sgn t n * 2 ^ j) = sgn (s ^^ t) (m * n) * 2 ^ (i + j) := by
    rw [sgn_mul, Int.pow_add]; ac_rfl
  rw [he] at h1 h2
  have g1 := nearest_ge hL hab h1
  have g2 := nearest_le hH hab h2
  exact ⟨nearest_fine hL hH g1 g2, g1, g2⟩

theorem order_fine {x y : Nat} (hx : Fine x) (hy : Fine y) : double.order x y = some (compare (val x) (val y)) := by
  unfold Format.order
  rw [read_fine hx, read_fine hy]
  simp only [Datum.order]
  rw [val_read (w := x), val_read (w := y)]
  generalize stepE (x % 2 ^ 63) = i at *
  generalize stepE (y % 2 ^ 63) = j at *
  generalize keepK (x % 2 ^ 63) = m at *
  generalize keepK (y % 2 ^ 63) = n at *
  rw [signed_eq, signed_eq]
  generalize sgn (x / 2 ^ 63 % 2 == 1) m = A
  generalize sgn (y / 2 ^ 63 % 2 == 1) n = B
  have hp : ∀ k : Nat, (0 : Int) < (2 : Int) ^ k := fun k => by rw [← cast_pow]; exact_mod_cast Nat.two_pow_pos k
  congr 1
  have key : ∀ k : Nat, ∀ X Y : Int, compare (X * 2 ^ k) (Y * 2 ^ k) = compare X Y := by
    intro k X Y
    simp only [compare, compareOfLessAndEq]
    have h1 : X * 2 ^ k < Y * 2 ^ k ↔ X < Y := Int.mul_lt_mul_right (hp k)
    have h2 : X * 2 ^ k = Y * 2 ^ k ↔ X = Y := ⟨fun h => Int.eq_of_mul_eq_mul_right (Int.ne_of_gt (hp k)) h, fun h => by rw [h]⟩
    simp only [h1, h2]
  rcases Nat.le_total i j with h | h
  · have e1 : (min (-1074 + (i : Int)) (-1074 + (j : Int))) = -1074 + (i : Int) := by omega
    rw [e1]
    have e2 : (-1074 + (i : Int) - (-1074 + (i : Int))).toNat = 0 := by omega
    have e3 : (-1074 + (j : Int) - (-1074 + (i : Int))).toNat = j - i := by omega
    rw [e2, e3, ← key i]
    rw [Int.mul_assoc B, ← Int.pow_add, show j - i + i = j from by omega]; simp
  · have e1 : (min (-1074 + (i : Int)) (-1074 + (j : Int))) = -1074 + (j : Int) := by omega
    rw [e1]
    have e2 : (-1074 + (j : Int) - (-1074 + (j : Int))).toNat = 0 := by omega
    have e3 : (-1074 + (i : Int) - (-1074 + (j : Int))).toNat = i - j := by omega
    rw [e2, e3, ← key j]
    rw [Int.mul_assoc A, ← Int.pow_add, show i - j + j = i from by omega]; simp

end Go.Proofs.YbulkcyuwDoor
