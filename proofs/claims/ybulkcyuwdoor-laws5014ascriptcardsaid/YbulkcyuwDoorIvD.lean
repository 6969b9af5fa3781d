/-
  The interval rules, each with one closed check.
-/
import Derived.Test.YbulkcyuwDoorIvC
import Derived.KernelRfl
namespace Go.Proofs.YbulkcyuwDoor
open Ieee

def fineB (w : Nat) : Bool := decide (w < 2 ^ 64) && decide (w % 2 ^ 63 < 2047 * 2 ^ 52)
theorem fine_of {w : Nat} (h : fineB w = true) : Fine w := by
  unfold fineB at h; simp only [Bool.and_eq_true, decide_eq_true_eq] at h; exact h

theorem Bt.const {k : Nat} (h : fineB k = true) : Bt k k k := ⟨fine_of h, Int.le_refl _, Int.le_refl _⟩
theorem Bt.weak {a x b a' b' : Nat} (h : Bt a x b) (hc : (decide (val a' ≤ val a) && decide (val b ≤ val b')) = true) : Bt a' x b' := by
  simp only [Bool.and_eq_true, decide_eq_true_eq] at hc
  exact ⟨h.fine, Int.le_trans hc.1 h.lo, Int.le_trans h.hi hc.2⟩

def chkAdd (a b c d L H : Nat) : Bool := fineB L && fineB H && decide (val L ≤ val a + val c) && decide (val b + val d ≤ val H)
theorem add_bt {a x b c y d : Nat} (L H : Nat) (hx : Bt a x b) (hy : Bt c y d) (h : chkAdd a b c d L H = true) : ∃ r, floatBits .add .f64 x y = some r ∧ Bt L r H := by
  simp only [chkAdd, Bool.and_eq_true, decide_eq_true_eq] at h
  obtain ⟨⟨⟨h1, h2⟩, h3⟩, h4⟩ := h
  exact add_near hx.fine hy.fine (fine_of h1) (fine_of h2) (by have := hx.lo; have := hy.lo; omega) (by have := hx.hi; have := hy.hi; omega)

def chkSub (a b c d L H : Nat) : Bool := fineB L && fineB H && decide (val L ≤ val a - val d) && decide (val b - val c ≤ val H)
theorem sub_bt {a x b c y d : Nat} (L H : Nat) (hx : Bt a x b) (hy : Bt c y d) (h : chkSub a b c d L H = true) : ∃ r, floatBits .sub .f64 x y = some r ∧ Bt L r H := by
  simp only [chkSub, Bool.and_eq_true, decide_eq_true_eq] at h
  obtain ⟨⟨⟨h1, h2⟩, h3⟩, h4⟩ := h
  exact sub_near hx.fine hy.fine (fine_of h1) (fine_of h2) (by have := hx.lo; have := hy.hi; omega) (by have := hx.hi; have := hy.lo; omega)

theorem line_ge {p a b y x : Int} (h1 : a ≤ x) (h2 : x ≤ b) (ha : p ≤ a * y) (hb : p ≤ b * y) : p ≤ x * y := by
  rcases Int.le_total 0 y with hy | hy
  · exact Int.le_trans ha (Int.mul_le_mul_of_nonneg_right h1 hy)
  · exact Int.le_trans hb (Int.mul_le_mul_of_nonpos_right h2 hy)
theorem line_le {p a b y x : Int} (h1 : a ≤ x) (h2 : x ≤ b) (ha : a * y ≤ p) (hb : b * y ≤ p) : x * y ≤ p := by
  rcases Int.le_total 0 y with hy | hy
  · exact Int.le_trans (Int.mul_le_mul_of_nonneg_right h2 hy) hb
  · exact Int.le_trans (Int.mul_le_mul_of_nonpos_right h1 hy) ha
theorem box_ge {p a b c d x y : Int} (h1 : a ≤ x) (h2 : x ≤ b) (h3 : c ≤ y) (h4 : y ≤ d) (hac : p ≤ a * c) (had : p ≤ a * d) (hbc : p ≤ b * c) (hbd : p ≤ b * d) : p ≤ x * y := by
  refine line_ge h1 h2 ?_ ?_
  · rw [Int.mul_comm]; exact line_ge h3 h4 (by rw [Int.mul_comm]; exact hac) (by rw [Int.mul_comm]; exact had)
  · rw [Int.mul_comm]; exact line_ge h3 h4 (by rw [Int.mul_comm]; exact hbc) (by rw [Int.mul_comm]; exact hbd)
theorem box_le {p a b c d x y : Int} (h1 : a ≤ x) (h2 : x ≤ b) (h3 : c ≤ y) (h4 : y ≤ d) (hac : a * c ≤ p) (had : a * d ≤ p) (hbc : b * c ≤ p) (hbd : b * d ≤ p) : x * y ≤ p := by
  refine line_le h1 h2 ?_ ?_
  · rw [Int.mul_comm]; exact line_le h3 h4 (by rw [Int.mul_comm]; exact hac) (by rw [Int.mul_comm]; exact had)
  · rw [Int.mul_comm]; exact line_le h3 h4 (by rw [Int.mul_comm]; exact hbc) (by rw [Int.mul_comm]; exact hbd)

def chkMul (a b c d L H : Nat) : Bool := fineB L && fineB H && decide (val L * scale ≤ val a * val c) && decide (val L * scale ≤ val a * val d) && decide (val L * scale ≤ val b * val c) && decide (val L * scale ≤ val b * val d)
  && decide (val a * val c ≤ val H * scale) && decide (val a * val d ≤ val H * scale) && decide (val b * val c ≤ val H * scale) && decide (val b * val d ≤ val H * scale)
theorem mul_bt {a x b c y d : Nat} (L H : Nat) (hx : Bt a x b) (hy : Bt c y d) (h : chkMul a b c d L H = true) : ∃ r, floatBits .mul .f64 x y = some r ∧ Bt L r H := by
  simp only [chkMul, Bool.and_eq_true, decide_eq_true_eq] at h
  obtain ⟨⟨⟨⟨⟨⟨⟨⟨⟨h1, h2⟩, h3⟩, h4⟩, h5⟩, h6⟩, h7⟩, h8⟩, h9⟩, h10⟩ := h
  exact mul_near hx.fine hy.fine (fine_of h1) (fine_of h2) (box_ge hx.lo hx.hi hy.lo hy.hi h3 h4 h5 h6) (box_le hx.lo hx.hi hy.lo hy.hi h7 h8 h9 h10)

/-- A square. -/
def chkSq (a b L H : Nat) : Bool := fineB L && fineB H && decide (val L ≤ 0) && decide (val a * val a ≤ val H * scale) && decide (val a * val b ≤ val H * scale) && decide (val b * val a ≤ val H * scale) && decide (val b * val b ≤ val H * scale)
theorem int_sq_nonneg (v : Int) : 0 ≤ v * v := by
  rcases Int.le_total 0 v with h | h
  · exact Int.mul_nonneg h h
  · exact Int.mul_nonneg_of_nonpos_of_nonpos h h
theorem sq_bt {a x b : Nat} (L H : Nat) (hx : Bt a x b) (h : chkSq a b L H = true) : ∃ r, floatBits .mul .f64 x x = some r ∧ Bt L r H := by
  simp only [chkSq, Bool.and_eq_true, decide_eq_true_eq] at h
  obtain ⟨⟨⟨⟨⟨⟨h1, h2⟩, h3⟩, h4⟩, h5⟩, h6⟩, h7⟩ := h
  refine mul_near hx.fine hx.fine (fine_of h1) (fine_of h2) ?_ (box_le hx.lo hx.hi hx.lo hx.hi h4 h5 h6 h7)
  have h0 : val L * scale ≤ 0 := Int.mul_nonpos_of_nonpos_of_nonneg h3 (by omega)
  have := int_sq_nonneg (val x)
  omega

def chkDiv (a b c d L H : Nat) : Bool := fineB L && fineB H && decide (0 < val c) && decide (val L * val c ≤ val a * scale) && decide (val L * val d ≤ val a * scale) && decide (val b * scale ≤ val H * val c) && decide (val b * scale ≤ val H * val d)
theorem div_bt {a x b c y d : Nat} (L H : Nat) (hx : Bt a x b) (hy : Bt c y d) (h : chkDiv a b c d L H = true) : ∃ r, floatBits .quo .f64 x y = some r ∧ Bt L r H := by
  simp only [chkDiv, Bool.and_eq_true, decide_eq_true_eq] at h
  obtain ⟨⟨⟨⟨⟨⟨h1, h2⟩, h3⟩, h4⟩, h5⟩, h6⟩, h7⟩ := h
  have hs : (0 : Int) ≤ scale := by omega
  refine div_near hx.fine hy.fine (Int.lt_of_lt_of_le h3 hy.lo) (fine_of h1) (fine_of h2) ?_ ?_
  · refine Int.le_trans ?_ (Int.mul_le_mul_of_nonneg_right hx.lo hs)
    rw [Int.mul_comm]
    exact line_le hy.lo hy.hi (by rw [Int.mul_comm]; exact h4) (by rw [Int.mul_comm]; exact h5)
  · refine Int.le_trans (Int.mul_le_mul_of_nonneg_right hx.hi hs) ?_
    rw [Int.mul_comm (val H)]
    exact line_ge hy.lo hy.hi (by rw [Int.mul_comm (val c)]; exact h6) (by rw [Int.mul_comm (val d)]; exact h7)

def chkSqrt (a b L H : Nat) : Bool := fineB L && fineB H && decide (0 ≤ val a) && decide (0 ≤ val L) && decide (0 ≤ val H) && decide (val L * val L ≤ val a * scale) && decide (val b * scale ≤ val H * val H)
theorem sqrt_bt {a x b : Nat} (L H : Nat) (hx : Bt a x b) (h : chkSqrt a b L H = true) : ∃ r, double.sqrt x = some r ∧ Bt L r H := by
  simp only [chkSqrt, Bool.and_eq_true, decide_eq_true_eq] at h
  obtain ⟨⟨⟨⟨⟨⟨h1, h2⟩, h3⟩, h4⟩, h5⟩, h6⟩, h7⟩ := h
  have hs : (0 : Int) ≤ scale := by omega
  exact sqrt_near hx.fine (Int.le_trans h3 hx.lo) (fine_of h1) (fine_of h2) h4 h5 (Int.le_trans h6 (Int.mul_le_mul_of_nonneg_right hx.lo hs)) (Int.le_trans (Int.mul_le_mul_of_nonneg_right hx.hi hs) h7)

/-- The sign turned. -/
def negW (x : Nat) : Nat := if x / 2 ^ 63 % 2 = 1 then x % 2 ^ 63 else x % 2 ^ 63 + 2 ^ 63
theorem negW_val {x : Nat} : val (negW x) = -val x := by
  unfold negW val
  by_cases h : x / 2 ^ 63 % 2 = 1
  · rw [if_pos h, if_pos h]
    have h1 : x % 2 ^ 63 / 2 ^ 63 % 2 = 0 := by omega
    have h2 : x % 2 ^ 63 % 2 ^ 63 = x % 2 ^ 63 := by omega
    rw [h1, h2]; simp
  · rw [if_neg h, if_neg h]
    have h1 : (x % 2 ^ 63 + 2 ^ 63) / 2 ^ 63 % 2 = 1 := by omega
    have h2 : (x % 2 ^ 63 + 2 ^ 63) % 2 ^ 63 = x % 2 ^ 63 := by omega
    rw [h1, h2]; simp
theorem negW_fine {x : Nat} (h : Fine x) : Fine (negW x) := by
  obtain ⟨h1, h2⟩ := h
  unfold negW; split <;> constructor <;> omega
theorem neg_bt {a x b : Nat} (h : Bt a x b) : Bt (negW b) (negW x) (negW a) :=
  ⟨negW_fine h.fine, by rw [negW_val, negW_val]; have := h.hi; omega, by rw [negW_val, negW_val]; have := h.lo; omega⟩

/-- The sign struck. -/
def absW (x : Nat) : Nat := x % 2 ^ 63
theorem absW_val {x : Nat} : val (absW x) = (mag (x % 2 ^ 63) : Int) := by
  unfold absW val
  have h1 : x % 2 ^ 63 / 2 ^ 63 % 2 = 0 := by omega
  have h2 : x % 2 ^ 63 % 2 ^ 63 = x % 2 ^ 63 := by omega
  rw [h1, h2]; simp
theorem absW_abs {x : Nat} : val (absW x) = if val x < 0 then -val x else val x := by
  rw [absW_val]
  rcases val_cases x with e | e <;> rw [e] <;> split <;> omega
theorem absW_fine {x : Nat} (h : Fine x) : Fine (absW x) := by
  obtain ⟨h1, h2⟩ := h
  unfold absW; constructor <;> omega

/-- A whole number's word. -/
theorem near_whole {s : Bool} {M L H : Nat} (hL : Fine L) (hH : Fine H) (h1 : val L ≤ sgn s M * scale) (h2 : sgn s M * scale ≤ val H) : Bt L (double.nearest s M 0) H := by
  obtain ⟨U, hU, _, hs⟩ := scale_ex
  rw [hs] at h1 h2
  have hab : ((U : Nat) : Int) - (0 : Nat) = 0 + 1074 := by omega
  have g1 : val L ≤ val (double.nearest s M 0) := nearest_ge hL hab (by simpa using h1)
  have g2 : val (double.nearest s M 0) ≤ val H := nearest_le hH hab (by simpa using h2)
  exact ⟨nearest_fine hL hH g1 g2, g1, g2⟩

end Go.Proofs.YbulkcyuwDoor
