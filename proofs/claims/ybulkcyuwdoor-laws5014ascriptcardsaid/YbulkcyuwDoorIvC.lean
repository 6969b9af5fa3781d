/-
  Square root; floor; the whole part.
-/
import Derived.Test.YbulkcyuwDoorIvB
namespace Go.Proofs.YbulkcyuwDoor
open Ieee

theorem sq_lt {a b : Nat} (h : a * a < b * b) : a < b := by
  rcases Nat.lt_or_ge a b with h1 | h1
  · exact h1
  · have := Nat.mul_le_mul h1 h1; omega
theorem sq_le {a b : Nat} (h : a * a ≤ b * b) : a ≤ b := by
  rcases Nat.lt_or_ge b a with h1 | h1
  · have := Nat.mul_lt_mul'' h1 h1; omega
  · exact h1

theorem rootFrom_spec (n : Nat) : ∀ (todo root : Nat), root * root ≤ n → n < (root + 2 ^ todo) * (root + 2 ^ todo) →
    (Datum.rootFrom n todo root) * (Datum.rootFrom n todo root) ≤ n ∧ n < (Datum.rootFrom n todo root + 1) * (Datum.rootFrom n todo root + 1)
  | 0, root, h1, h2 => by simpa [Datum.rootFrom] using ⟨h1, h2⟩
  | todo + 1, root, h1, h2 => by
    have h2' : root + 2 ^ (todo + 1) = root + 2 ^ todo + 2 ^ todo := by rw [Nat.pow_succ]; omega
    rw [h2'] at h2
    simp only [Datum.rootFrom, Nat.shiftLeft_eq, Nat.one_mul]
    by_cases hc : (root + 2 ^ todo) * (root + 2 ^ todo) ≤ n
    · rw [if_pos hc]; exact rootFrom_spec n todo _ hc h2
    · rw [if_neg hc]; exact rootFrom_spec n todo _ h1 (by omega)

theorem root_spec (n : Nat) : (Datum.rootFrom n (n.log2 / 2 + 1) 0) * (Datum.rootFrom n (n.log2 / 2 + 1) 0) ≤ n ∧ n < (Datum.rootFrom n (n.log2 / 2 + 1) 0 + 1) * (Datum.rootFrom n (n.log2 / 2 + 1) 0 + 1) := by
  refine rootFrom_spec n _ 0 (by omega) ?_
  have h2 : n < 2 ^ (n.log2 + 1) := Nat.lt_log2_self
  rw [Nat.zero_add, ← pow_split]
  exact Nat.lt_of_lt_of_le h2 (pow_mono (by omega))

/-- The square root of a positive word. -/
theorem sqrt_near {x L H : Nat} (hx : Fine x) (hpos : 0 ≤ val x) (hL : Fine L) (hH : Fine H) (hL0 : 0 ≤ val L) (hH0 : 0 ≤ val H)
    (h1 : val L * val L ≤ val x * scale) (h2 : val x * scale ≤ val H * val H) : ∃ r, double.sqrt x = some r ∧ Bt L r H := by
  unfold Format.sqrt
  rw [read_fine hx]
  obtain ⟨U, hU, hsn, hs⟩ := scale_ex
  have hvL : val L = (mag (L % 2 ^ 63) : Int) := by rcases val_cases L with e | e <;> omega
  have hvH : val H = (mag (H % 2 ^ 63) : Int) := by rcases val_cases H with e | e <;> omega
  have hvx : val x = (mag (x % 2 ^ 63) : Int) := by rcases val_cases x with e | e <;> omega
  have hsg := val_read (w := x)
  rw [hvL, hvx] at h1; rw [hvH, hvx] at h2
  have h1' : mag (L % 2 ^ 63) * mag (L % 2 ^ 63) ≤ mag (x % 2 ^ 63) * scale := by exact_mod_cast h1
  have h2' : mag (x % 2 ^ 63) * scale ≤ mag (H % 2 ^ 63) * mag (H % 2 ^ 63) := by exact_mod_cast h2
  have hkx := keepK_lt (x % 2 ^ 63)
  have hLr := hL.2
  have hHr := hH.2
  clear h1 h2
  rw [hsn] at h1' h2'
  have hm' : mag (x % 2 ^ 63) = keepK (x % 2 ^ 63) * 2 ^ stepE (x % 2 ^ 63) := rfl
  rw [hm'] at h1' h2'
  rw [hvx, hm'] at hsg
  generalize keepK (x % 2 ^ 63) = m at *
  generalize stepE (x % 2 ^ 63) = ei at *
  generalize (x / 2 ^ 63 % 2 == 1) = s at *
  simp only [Datum.root]
  by_cases hm : m = 0
  · rw [if_pos hm]
    refine ⟨_, rfl, ?_⟩
    simp only [Format.write]
    subst hm
    have hab : (((-1074 + (ei : Int)) + 1074).toNat : Int) - (0 : Nat) = (-1074 + (ei : Int)) + 1074 := by omega
    have hml : mag (L % 2 ^ 63) = 0 := by
      have : mag (L % 2 ^ 63) * mag (L % 2 ^ 63) = 0 := by simpa using h1'
      rcases Nat.mul_eq_zero.1 this with h | h <;> exact h
    have g1 : val L ≤ val (double.nearest s 0 (-1074 + (ei : Int))) := nearest_ge hL hab (by rw [hvL, hml]; cases s <;> simp [sgn])
    have g2 : val (double.nearest s 0 (-1074 + (ei : Int))) ≤ val H := nearest_le hH hab (by rw [show sgn s 0 = 0 from by cases s <;> rfl]; simpa using hH0)
    exact ⟨nearest_fine hL hH g1 g2, g1, g2⟩
  · rw [if_neg hm]
    have hs0 : s = false := by
      cases s
      · rfl
      · exfalso
        simp only [sgn, if_true, Int.neg_mul] at hsg
        have a1 : (0 : Int) < (m : Int) * 2 ^ ei := Int.mul_pos (by omega) (pow_pos_int _)
        have a2 : ((m * 2 ^ ei : Nat) : Int) = (m : Int) * 2 ^ ei := by simp
        omega
    subst hs0
    simp only [Bool.false_eq_true, if_false]
    have e54 : 2 * (double.fractionBits + 2) = 108 := rfl
    rw [e54]
    have hlog : m.log2 < 53 := (Nat.log2_lt hm).2 hkx
    generalize hmo : 108 - m.log2 = mo
    generalize hmore : mo + ((-1074 + (ei : Int) - (mo : Int)) % 2).toNat = more
    have hev : ∃ c : Nat, 2 * c + more = ei + 1072 ∧ (-1074 + (ei : Int) - (more : Int)) / 2 - 1 = (c : Int) - 1074 := by
      refine ⟨((-1074 + (ei : Int) - (more : Int)) / 2 + 1073).toNat, ?_, ?_⟩ <;> omega
    obtain ⟨c, hc1, hc2⟩ := hev
    rw [hc2]
    rw [Nat.shiftLeft_eq]
    have hmlog : 2 ^ m.log2 ≤ m := Nat.log2_self_le hm
    generalize hN : m * 2 ^ more = n at *
    have hn108 : 2 ^ 108 ≤ n := by
      rw [← hN]
      refine Nat.le_trans ?_ (Nat.mul_le_mul_right _ hmlog)
      rw [← pow_split]; exact pow_mono (by omega)
    obtain ⟨hw1, hw2⟩ := root_spec n
    generalize Datum.rootFrom n (n.log2 / 2 + 1) 0 = whole at *
    refine ⟨_, rfl, ?_⟩
    simp only [Format.write]
    have hbig : 2 ^ 53 ≤ whole := by
      have h54 : 2 ^ 54 * 2 ^ 54 < (whole + 1) * (whole + 1) := by
        rw [← pow_split]; exact Nat.lt_of_le_of_lt hn108 hw2
      have := sq_lt h54
      omega
    have hX : m * 2 ^ ei * 2 ^ U = n * (2 ^ (c + 1) * 2 ^ (c + 1)) := by
      have hexp : ei + U = more + ((c + 1) + (c + 1)) := by omega
      calc m * 2 ^ ei * 2 ^ U = m * 2 ^ (ei + U) := by rw [pow_split]; ac_rfl
        _ = n * (2 ^ (c + 1) * 2 ^ (c + 1)) := by rw [hexp, pow_split, pow_split, ← hN]; ac_rfl
    rw [hX] at h1' h2'
    have hab : ((c : Nat) : Int) - (0 : Nat) = ((c : Int) - 1074) + 1074 := by omega
    have hb01 : ∀ b : Bool, b.toNat ≤ 1 := by decide
    have hq1 : 2 * whole ≤ 2 * whole + (whole * whole != n).toNat := by omega
    have g1 : val L ≤ val (double.nearest false (2 * whole + (whole * whole != n).toNat) ((c : Int) - 1074)) := by
      refine nearest_ge hL hab ?_
      rw [hvL]
      simp only [sgn, Bool.false_eq_true, if_false]
      have hkl := keepK_lt (L % 2 ^ 63)
      have hgoal : mag (L % 2 ^ 63) * 2 ^ 0 ≤ (2 * whole + (whole * whole != n).toNat) * 2 ^ c := by
        rw [Nat.pow_zero, Nat.mul_one]
        by_cases hcc : c + 1 ≤ stepE (L % 2 ^ 63)
        · obtain ⟨g, hg⟩ := Nat.exists_eq_add_of_le hcc
          have hmag : mag (L % 2 ^ 63) = keepK (L % 2 ^ 63) * 2 ^ g * 2 ^ (c + 1) := by
            unfold mag; rw [hg, pow_split (c + 1) g]; ac_rfl
          rw [hmag] at h1'
          have hT : keepK (L % 2 ^ 63) * 2 ^ g ≤ whole := by
            have : (keepK (L % 2 ^ 63) * 2 ^ g) * (keepK (L % 2 ^ 63) * 2 ^ g) ≤ n := by
              refine Nat.le_of_mul_le_mul_right ?_ (Nat.mul_pos (Nat.two_pow_pos (c + 1)) (Nat.two_pow_pos (c + 1)))
              refine Nat.le_trans (Nat.le_of_eq ?_) h1'
              ac_rfl
            have h3 := sq_lt (Nat.lt_of_le_of_lt this hw2)
            omega
          rw [hmag, pow_split c 1]
          calc keepK (L % 2 ^ 63) * 2 ^ g * (2 ^ c * 2 ^ 1) = 2 * (keepK (L % 2 ^ 63) * 2 ^ g) * 2 ^ c := by rw [show (2:Nat)^1 = 2 from rfl]; ac_rfl
            _ ≤ _ := Nat.mul_le_mul_right _ (by omega)
        · calc mag (L % 2 ^ 63) ≤ 2 ^ 53 * 2 ^ stepE (L % 2 ^ 63) := by unfold mag; exact Nat.mul_le_mul_right _ (Nat.le_of_lt hkl)
            _ ≤ 2 ^ 53 * 2 ^ c := Nat.mul_le_mul_left _ (pow_mono (by omega))
            _ ≤ _ := Nat.mul_le_mul_right _ (by omega)
      simp only [← cast_pow]; exact_mod_cast hgoal
    have g2 : val (double.nearest false (2 * whole + (whole * whole != n).toNat) ((c : Int) - 1074)) ≤ val H := by
      refine nearest_le hH hab ?_
      rw [hvH]
      simp only [sgn, Bool.false_eq_true, if_false]
      have hkh := keepK_lt (H % 2 ^ 63)
      have hgoal : (2 * whole + (whole * whole != n).toNat) * 2 ^ c ≤ mag (H % 2 ^ 63) * 2 ^ 0 := by
        rw [Nat.pow_zero, Nat.mul_one]
        by_cases hcc : c + 1 ≤ stepE (H % 2 ^ 63)
        · obtain ⟨g, hg⟩ := Nat.exists_eq_add_of_le hcc
          have hmag : mag (H % 2 ^ 63) = keepK (H % 2 ^ 63) * 2 ^ g * 2 ^ (c + 1) := by
            unfold mag; rw [hg, pow_split (c + 1) g]; ac_rfl
          rw [hmag] at h2'
          have hT : n ≤ (keepK (H % 2 ^ 63) * 2 ^ g) * (keepK (H % 2 ^ 63) * 2 ^ g) := by
            refine Nat.le_of_mul_le_mul_right ?_ (Nat.mul_pos (Nat.two_pow_pos (c + 1)) (Nat.two_pow_pos (c + 1)))
            refine Nat.le_trans h2' (Nat.le_of_eq ?_)
            ac_rfl
          have hq : 2 * whole + (whole * whole != n).toNat ≤ 2 * (keepK (H % 2 ^ 63) * 2 ^ g) := by
            by_cases hexact : whole * whole = n
            · have := sq_le (Nat.le_trans (Nat.le_of_eq hexact) hT)
              have hb : (whole * whole != n) = false := by simpa using hexact
              rw [hb]; simp only [Bool.toNat_false]; omega
            · have : whole * whole < n := by omega
              have h3 := sq_lt (Nat.lt_of_lt_of_le this hT)
              have := hb01 (whole * whole != n)
              omega
          rw [hmag, pow_split c 1]
          calc _ ≤ 2 * (keepK (H % 2 ^ 63) * 2 ^ g) * 2 ^ c := Nat.mul_le_mul_right _ hq
            _ = keepK (H % 2 ^ 63) * 2 ^ g * (2 ^ c * 2 ^ 1) := by rw [show (2:Nat)^1 = 2 from rfl]; ac_rfl
        · exfalso
          have hmh : mag (H % 2 ^ 63) ≤ 2 ^ 53 * 2 ^ c := by
            unfold mag
            exact Nat.mul_le_mul (Nat.le_of_lt hkh) (pow_mono (by omega))
          have h3 := Nat.le_trans h2' (Nat.mul_le_mul hmh hmh)
          have h4 : 2 ^ 108 * (2 ^ (c + 1) * 2 ^ (c + 1)) ≤ n * (2 ^ (c + 1) * 2 ^ (c + 1)) := Nat.mul_le_mul_right _ hn108
          have h5 : 2 ^ 108 * (2 ^ (c + 1) * 2 ^ (c + 1)) = 2 ^ (110 + 2 * c) := by rw [← pow_split, ← pow_split, show 108 + (c + 1 + (c + 1)) = 110 + 2 * c from by omega]
          have h6 : 2 ^ 53 * 2 ^ c * (2 ^ 53 * 2 ^ c) = 2 ^ (106 + 2 * c) := by rw [← pow_split, ← pow_split, show 53 + c + (53 + c) = 106 + 2 * c from by omega]
          have h7 : 2 ^ (106 + 2 * c) < 2 ^ (110 + 2 * c) := Nat.pow_lt_pow_right (by decide) (by omega)
          omega
      simp only [← cast_pow]; exact_mod_cast hgoal
    exact ⟨nearest_fine hL hH g1 g2, g1, g2⟩

/-- A finite word is what its parts say; the cut downwards is the floor. -/
theorem cut_down (s : Bool) (m d : Nat) : sgn s (Toward.down.cut s m d) = sgn s m / (2 ^ d : Nat) := by
  unfold Toward.cut
  simp only [Nat.one_shiftLeft]
  have key : ∀ g : Nat, 0 < g → sgn s (m / g + (s && m % g != 0).toNat) = sgn s m / (g : Int) := by
    intro g hg
    have hdm : g * (m / g) + m % g = m := Nat.div_add_mod m g
    have hlt : m % g < g := Nat.mod_lt _ hg
    cases s
    · simp [sgn]
    · simp only [sgn, if_true, Bool.true_and]
      by_cases hr : m % g = 0
      · rw [hr]; simp only [bne_self_eq_false, Bool.toNat_false, Nat.add_zero]
        have : m = g * (m / g) := by omega
        have e : (-(m : Int)) = (g : Int) * (-(m / g : Nat) : Int) := by
          rw [Int.mul_neg]; congr 1; exact_mod_cast this
        rw [e, Int.mul_ediv_cancel_left _ (by omega)]
      · have hb : (m % g != 0) = true := by simpa using hr
        rw [hb]; simp only [Bool.toNat_true]
        symm
        rw [Int.ediv_eq_iff_of_pos (by omega)]
        have e : (m : Int) = (g : Int) * (m / g : Nat) + (m % g : Nat) := by exact_mod_cast hdm.symm
        generalize (m / g : Nat) = q at *
        generalize (m % g : Nat) = r at *
        have e2 : (-(q + 1 : Nat) : Int) * g = -((g : Int) * q) - g := by
          rw [Int.neg_mul, Int.mul_comm ((q + 1 : Nat) : Int)]; push_cast; rw [Int.mul_add]; omega
        constructor
        · rw [e2]; omega
        · rw [e2]; omega
  by_cases hd : d ≤ m.log2 + 2
  · rw [Nat.min_eq_left hd]; exact key _ (Nat.two_pow_pos d)
  · rw [Nat.min_eq_right (by omega), key _ (Nat.two_pow_pos _)]
    have hn : m < 2 ^ (m.log2 + 1) := Nat.lt_log2_self
    have p1 : 2 ^ (m.log2 + 1) ≤ 2 ^ (m.log2 + 2) := pow_mono (by omega)
    have p2 : 2 ^ (m.log2 + 2) ≤ 2 ^ d := pow_mono (by omega)
    have small : ∀ g : Nat, m < g → sgn s m / (g : Int) = if s = true ∧ m ≠ 0 then -1 else 0 := by
      intro g hg
      cases s
      · simp only [sgn, Bool.false_eq_true, if_false, false_and]
        exact Int.ediv_eq_zero_of_lt (by omega) (by omega)
      · by_cases hm0 : m = 0
        · simp [sgn, hm0]
        · simp only [sgn, if_true, hm0, ne_eq, not_false_eq_true, and_self]
          rw [Int.ediv_eq_iff_of_pos (by omega)]; omega
    rw [small _ (by omega), small _ (by omega)]

theorem scaled_div {A : Int} {e U : Nat} : (A * 2 ^ e) / (2 : Int) ^ U = (A * 2 ^ (e - U)) / ((2 ^ (U - e) : Nat) : Int) := by
  rcases Nat.le_total U e with h | h
  · obtain ⟨g, rfl⟩ := Nat.exists_eq_add_of_le h
    have h1 : U + g - U = g := by omega
    have h2 : U - (U + g) = 0 := by omega
    rw [h1, h2, Int.pow_add, Int.mul_comm (2 ^ U) (2 ^ g), ← Int.mul_assoc, Int.mul_ediv_cancel _ (Int.ne_of_gt (pow_pos_int U))]
    simp
  · obtain ⟨g, rfl⟩ := Nat.exists_eq_add_of_le h
    have h1 : e - (e + g) = 0 := by omega
    have h2 : e + g - e = g := by omega
    rw [h1, h2, Int.pow_add, Int.mul_comm A, Int.mul_ediv_mul_of_pos _ _ (pow_pos_int e), cast_pow]; simp

/-- What the model's floor gives. -/
def floorW (x : Nat) : Nat := double.write ((double.read x).integral .down)

theorem sgn_shift (s : Bool) (m k : Nat) : sgn s (m <<< k) = sgn s m * 2 ^ k := by
  rw [Nat.shiftLeft_eq]; cases s <;> simp [sgn, Int.neg_mul]

theorem floor_fine {x : Nat} (hx : Fine x) : ∃ s M, floorW x = double.nearest s M 0 ∧ sgn s M = val x / scale := by
  unfold floorW
  rw [read_fine hx]
  obtain ⟨U, hU, _, hs⟩ := scale_ex
  refine ⟨_, _, rfl, ?_⟩
  rw [cut_down, val_read (w := x), hs, scaled_div, sgn_shift]
  rw [show (-1074 + (stepE (x % 2 ^ 63) : Int)).toNat = stepE (x % 2 ^ 63) - U from by omega, show (-(-1074 + (stepE (x % 2 ^ 63) : Int))).toNat = U - stepE (x % 2 ^ 63) from by omega]

theorem toInt_fine {x : Nat} (hx : Fine x) (h0 : 0 ≤ val x) : (double.read x).toInt .zero = some (val x / scale) := by
  rw [read_fine hx]
  obtain ⟨U, hU, _, hs⟩ := scale_ex
  unfold Datum.toInt
  simp only [Datum.integral]
  have hv := val_read (w := x)
  by_cases hneg : (x / 2 ^ 63 % 2 == 1) = true
  · have hm : keepK (x % 2 ^ 63) = 0 := by
      rw [hneg] at hv
      simp only [sgn, if_true, Int.neg_mul] at hv
      have a1 : (0 : Int) ≤ (keepK (x % 2 ^ 63) : Int) * 2 ^ stepE (x % 2 ^ 63) := Int.mul_nonneg (by omega) (Int.le_of_lt (pow_pos_int _))
      have a2 : (keepK (x % 2 ^ 63) : Int) * 2 ^ stepE (x % 2 ^ 63) = 0 := by omega
      rcases Int.mul_eq_zero.1 a2 with h | h
      · exact_mod_cast h
      · exact absurd h (Int.ne_of_gt (pow_pos_int _))
    rw [hm] at hv ⊢
    have hv0 : val x = 0 := by rw [hv]; cases (x / 2 ^ 63 % 2 == 1) <;> simp [sgn]
    rw [hv0, signed_eq]
    simp [Toward.cut, sgn]
  · have hf : (x / 2 ^ 63 % 2 == 1) = false := by simpa using hneg
    rw [hf] at hv ⊢
    have hcut : ∀ n d, Toward.zero.cut false n d = Toward.down.cut false n d := fun n d => rfl
    rw [hcut, signed_eq, Int.pow_zero, Int.mul_one, cut_down, hv, hs, scaled_div, sgn_shift]
    rw [show (-1074 + (stepE (x % 2 ^ 63) : Int)).toNat = stepE (x % 2 ^ 63) - U from by omega, show (-(-1074 + (stepE (x % 2 ^ 63) : Int))).toNat = U - stepE (x % 2 ^ 63) from by omega]

end Go.Proofs.YbulkcyuwDoor
