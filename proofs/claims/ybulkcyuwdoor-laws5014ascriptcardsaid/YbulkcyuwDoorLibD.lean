/-
  normalize (58), frexp (50), Frexp (43), ldexp (52), Ldexp (44), mod (35), Mod (25), floorMod (17).
-/
import Derived.Test.YbulkcyuwDoorLibC
namespace Go.Proofs.YbulkcyuwDoor
open Go.RowKit

/-- A finite word that is neither nought nor subnormal. -/
def okN (x : Nat) : Bool := fineB x && decide (4503599627370496 ≤ x % 9223372036854775808)
theorem okN_fine {x : Nat} (h : okN x = true) : Fine x := by
  unfold okN at h; simp only [Bool.and_eq_true] at h; exact fine_of h.1
theorem okN_ge {x : Nat} (h : okN x = true) : 4503599627370496 ≤ x % 9223372036854775808 := by
  unfold okN at h; simp only [Bool.and_eq_true, decide_eq_true_eq] at h; exact h.2
theorem okN_zero {x : Nat} (h : okN x = true) : (FloatKind.f64.format.order x 0 == some .eq) = false := by
  have hf := okN_fine h
  have hg := okN_ge h
  refine Eq.trans (feqB_fine hf (fine_of (by kernel_rfl))) (decide_eq_false ?_)
  have h0 : val 0 = 0 := by decide
  have hm : mag 0 < mag (x % 2 ^ 63) := mag_lt (by omega)
  have h1 : mag 0 = 0 := by decide
  rw [h0]
  rcases val_cases x with e | e <;> rw [e] <;> omega
theorem okN_normal {x : Nat} (h : okN x = true) : (FloatKind.f64.format.order (absW x) 4503599627370496 == some .lt) = false := by
  have hf := okN_fine h
  have hg := okN_ge h
  refine Eq.trans (fltB_fine (absW_fine hf) (fine_of (by kernel_rfl))) (decide_eq_false ?_)
  have h0 : val 4503599627370496 = (mag 4503599627370496 : Int) := by decide +kernel
  rw [absW_val, h0]
  have := mag_mono (r := 4503599627370496) (s := x % 2 ^ 63) hg
  omega

theorem normalize_any (x : Nat) (h : okN x = true) (w : World) :
    Calls Ybad.prog 58 #[.float .f64 x] w fun e w' => e = .returned (.tuple #[.float .f64 x, .int .i64 0]) ∧ w' = w := by
  have hn := okN_normal h
  have hx := okN_fine h
  go_enter Ybad.func58, Ybad.ntmps58
  go_wp2_with fail
  refine (abs_any x hx.1 _).mono ?_
  rintro e w1 ⟨rfl, rfl⟩
  go_wp2_with fail
  go_ret2
  exact ⟨rfl, rfl⟩

/-- The fraction and the exponent. -/
def frF (x : Nat) : Nat := (bits .or .u64 (bits .andNot .u64 (x : Int) 9218868437227405312) 4602678819172646912).toNat
def exF (x : Nat) : Int := (expo x : Int) - 1023 + 1

set_option maxRecDepth 100000 in
theorem frexp_any (x : Nat) (h : okN x = true) (w : World) :
    Calls Ybad.prog 50 #[.float .f64 x] w fun e w' => e = .returned (.tuple #[.float .f64 (frF x), .int .i64 (exF x)]) ∧ w' = w := by
  have hx := okN_fine h
  have hz := okN_zero h
  have hb := call_bits
  have hf := call_frombits
  have he := bits_expo x hx.1
  have hlt : expo x < 2048 := Nat.mod_lt _ (by decide)
  have d1 : wrap64 ((expo x : Int) - 1023) = (expo x : Int) - 1023 := by unfold wrap64; omega
  have d2 : wrap64 ((expo x : Int) - 1023 + 1) = (expo x : Int) - 1023 + 1 := by unfold wrap64; omega
  have d0 : wrap64 (expo x : Int) = (expo x : Int) := by unfold wrap64; omega
  unfold frF exF
  generalize expo x = E at *
  go_enter Ybad.func50, Ybad.ntmps50
  go_wp2_with fail
  refine (isInf_any x hx _).mono ?_
  rintro e w1 ⟨rfl, rfl⟩
  go_wp2_with fail
  refine (isNaN_any x hx _).mono ?_
  rintro e w1 ⟨rfl, rfl⟩
  go_wp2_with fail
  refine (normalize_any x h _).mono ?_
  rintro e w1 ⟨rfl, rfl⟩
  go_wp2_with fail
  go_ret2
  exact ⟨rfl, rfl⟩

theorem Frexp_any (x : Nat) (h : okN x = true) (w : World) :
    Calls Ybad.prog 43 #[.float .f64 x] w fun e w' => e = .returned (.tuple #[.float .f64 (frF x), .int .i64 (exF x)]) ∧ w' = w := by
  go_enter Ybad.func43, Ybad.ntmps43
  go_wp2_with fail
  refine (frexp_any x h _).mono ?_
  rintro e w1 ⟨rfl, rfl⟩
  go_wp2_with fail
  go_ret2
  exact ⟨rfl, rfl⟩

/-- y times 2 ^ k, as long as that is a normal number. -/
def ldF (y : Nat) (k : Int) : Option Nat :=
  if decide (-1000 ≤ k) && decide (k ≤ 1000) && decide (-1022 ≤ k + ((expo y : Int) - 1023)) && decide (k + ((expo y : Int) - 1023) ≤ 1023) then
    fm 4607182418800017408 (bits .or .u64 (bits .andNot .u64 (y : Int) 9218868437227405312) ((k + ((expo y : Int) - 1023) + 1023) * 4503599627370496)).toNat
  else none

theorem bits_expo_i (x : Nat) (hx : x < 2 ^ 64) : bits .and .i64 (wrap64 ((x : Int) / 4503599627370496)) 2047 = (expo x : Int) := by
  have hw : wrap64 ((x : Int) / 4503599627370496) = (x : Int) / 4503599627370496 := by unfold wrap64; omega
  have hb := bits_mask .i64 62 (by decide) (by intro n h0 h1; rw [IntKind.wrap_i64]; omega) 11 (by decide) ((x : Int) / 4503599627370496) (by omega) (by omega)
  rw [hw]
  refine Eq.trans hb ?_
  unfold expo; omega

set_option maxRecDepth 100000 in
theorem ldexp_any (y r : Nat) (k : Int) (h : okN y = true) (hr : ldF y k = some r) (w : World) :
    Calls Ybad.prog 52 #[.float .f64 y, .int .i64 k] w fun e w' => e = .returned (.float .f64 r) ∧ w' = w := by
  have hx := okN_fine h
  have hz := okN_zero h
  have hb := call_bits
  have hf := call_frombits
  have he := bits_expo_i y hx.1
  have hlt : expo y < 2048 := Nat.mod_lt _ (by decide)
  unfold ldF at hr
  by_cases hg : (decide (-1000 ≤ k) && decide (k ≤ 1000) && decide (-1022 ≤ k + ((expo y : Int) - 1023)) && decide (k + ((expo y : Int) - 1023) ≤ 1023)) = true
  case neg => rw [if_neg hg] at hr; cases hr
  rw [if_pos hg] at hr
  simp only [Bool.and_eq_true, decide_eq_true_eq] at hg
  obtain ⟨⟨⟨g1, g2⟩, g3⟩, g4⟩ := hg
  generalize expo y = E at *
  have d1 : wrap64 (k + 0) = k := by unfold wrap64; omega
  have d2 : wrap64 (E : Int) = E := by unfold wrap64; omega
  have d3 : wrap64 ((E : Int) - 1023) = (E : Int) - 1023 := by unfold wrap64; omega
  have d4 : wrap64 (k + ((E : Int) - 1023)) = k + ((E : Int) - 1023) := by unfold wrap64; omega
  have d5 : wrap64 (k + ((E : Int) - 1023) + 1023) = k + ((E : Int) - 1023) + 1023 := by unfold wrap64; omega
  have n1 : ¬ (k + ((E : Int) - 1023) < -1075) := by omega
  have n2 : ¬ (k + ((E : Int) - 1023) > 1023) := by omega
  have n2' : ¬ ((1023 : Int) < k + ((E : Int) - 1023)) := by omega
  have n3 : ¬ (k + ((E : Int) - 1023) < -1022) := by omega
  have d6 : IntKind.u64.wrap (k + ((E : Int) - 1023) + 1023) = k + ((E : Int) - 1023) + 1023 := by rw [IntKind.wrap_u64]; omega
  replace hr := run_op hr
  go_enter Ybad.func52, Ybad.ntmps52
  go_wp2_with fail
  refine (isInf_any y hx _).mono ?_
  rintro e w1 ⟨rfl, rfl⟩
  go_wp2_with fail
  refine (isNaN_any y hx _).mono ?_
  rintro e w1 ⟨rfl, rfl⟩
  go_wp2_with fail
  refine (normalize_any y h _).mono ?_
  rintro e w1 ⟨rfl, rfl⟩
  go_wp2_with fail
  go_ret
  exact ⟨rfl, rfl⟩

theorem Ldexp_any (y r : Nat) (k : Int) (h : okN y = true) (hr : ldF y k = some r) (w : World) :
    Calls Ybad.prog 44 #[.float .f64 y, .int .i64 k] w fun e w' => e = .returned (.float .f64 r) ∧ w' = w := by
  go_enter Ybad.func44, Ybad.ntmps44
  go_wp2_with fail
  refine (ldexp_any y r k h hr _).mono ?_
  rintro e w1 ⟨rfl, rfl⟩
  go_wp2_with fail
  go_ret
  exact ⟨rfl, rfl⟩

/-- One round of the remainder's loop; the loop, with fuel; the whole. -/
def modStep (r y : Nat) : Option Nat :=
  (ldF y (if fltB (frF r) (frF y) then exF r - 1 - exF y else exF r - exF y)).bind fun l => fs r l
def modRun : Nat → Nat → Nat → Option Nat
  | 0, r, y => if fgeB r y then none else some r
  | n + 1, r, y => if fgeB r y then (if okN r then (modStep r y).bind fun r' => if r' < r then modRun n r' y else none else none) else some r
def modF (x y : Nat) : Option Nat :=
  if fineB x && okN (absW y) && okN y then
    (if fltB x 0 then (modRun 80 (fneg x) (absW y)).bind fun r => some (fneg r) else modRun 80 x (absW y))
  else none

def floatNat : Value → Nat
  | .float _ b => b
  | _ => 0

theorem exF_bounds (r : Nat) : -1022 ≤ exF r ∧ exF r ≤ 1026 := by
  have : expo r < 2048 := Nat.mod_lt _ (by decide)
  unfold exF; omega

set_option maxHeartbeats 1000000 in
set_option maxRecDepth 100000 in
theorem mod_core (neg : Bool) (x r0 y res : Nat) (hs : (FloatKind.f64.format.order x 0 == some .lt) = neg) (hr0 : r0 = if neg then fneg x else x) (hx : Fine x) (hy : okN y = true) (hay : okN (absW y) = true) (h : modRun 80 r0 (absW y) = some res) (w : World) :
    Calls Ybad.prog 35 #[.float .f64 x, .float .f64 y] w fun e w' => e = .returned (.float .f64 (if neg then fneg res else res)) ∧ w' = w := by
  have hyz := okN_zero hy
  have hyf := okN_fine hy
  have hax := abs_any y hyf.1
  have hng := run_neg
  generalize absW y = Y at *
  cases neg
  case false =>
    simp only [Bool.false_eq_true, if_false] at hr0 ⊢
    subst hr0
    go_enter Ybad.func35, Ybad.ntmps35
    go_wp2_with fail
    refine (isInf_any r0 hx _).mono ?_
    rintro e w1 ⟨rfl, rfl⟩
    go_wp2_with fail
    refine (isNaN_any r0 hx _).mono ?_
    rintro e w1 ⟨rfl, rfl⟩
    go_wp2_with fail
    refine (isNaN_any y hyf _).mono ?_
    rintro e w1 ⟨rfl, rfl⟩
    go_wp2_with fail
    refine (hax _).mono ?_
    rintro e w1 ⟨rfl, rfl⟩
    go_wp2_with fail
    refine (Frexp_any Y hay _).mono ?_
    rintro e w1 ⟨rfl, rfl⟩
    go_wp2_with fail
    go_loopw [7, 8, 9] (fun s _ _ wr => ∃ n r, s = .float .f64 r ∧ modRun n r Y = some res ∧ w1 = wr) (fun s _ _ _ => floatNat s)
    case atStart => exact ⟨80, r0, rfl, h, rfl⟩
    case round =>
      obtain ⟨n, r, rfl, hrun, rfl⟩ := hrel
      have hb := exF_bounds r
      have hbY := exF_bounds Y
      rcases hge : (FloatKind.f64.format.order r Y == some .gt || FloatKind.f64.format.order r Y == some .eq) with _ | _
      · have hres : r = res := by
          cases n with
          | zero => unfold modRun at hrun; rw [if_neg (Bool.eq_false_iff.1 hge)] at hrun; exact Option.some.inj hrun
          | succ n => unfold modRun at hrun; rw [if_neg (Bool.eq_false_iff.1 hge)] at hrun; exact Option.some.inj hrun
        subst hres
        clear hrun hb hbY
        go_wp2_with fail
        go_wp2_with fail
        go_ret
        exact ⟨rfl, rfl⟩
      · cases n with
        | zero => unfold modRun at hrun; rw [if_pos hge] at hrun; cases hrun
        | succ n =>
          unfold modRun at hrun
          rw [if_pos hge] at hrun
          by_cases hok : okN r = true
          case neg => rw [if_neg hok] at hrun; cases hrun
          rw [if_pos hok] at hrun
          unfold modStep at hrun
          simp only [Option.bind_eq_some_iff] at hrun
          obtain ⟨r', ⟨l, hl, hsub⟩, hrun⟩ := hrun
          by_cases hlt : r' < r
          case neg => rw [if_neg hlt] at hrun; cases hrun
          rw [if_pos hlt] at hrun
          replace hsub := run_op hsub
          have HR := hide hrun
          have HL := hide hlt
          have d1 : wrap64 (exF r - 1) = exF r - 1 := by unfold wrap64; omega
          have d2 : wrap64 (exF r - 1 - exF Y) = exF r - 1 - exF Y := by unfold wrap64; omega
          have d3 : wrap64 (exF r - exF Y) = exF r - exF Y := by unfold wrap64; omega
          clear hrun hlt hb hbY
          rcases hfr : (FloatKind.f64.format.order (frF r) (frF Y) == some .lt) with _ | _
          · rw [if_neg (Bool.eq_false_iff.1 hfr)] at hl
            have HLd := hide hl
            clear hl
            have hFr := Frexp_any r hok
            generalize frF r = fr at *
            generalize exF r = ex at *
            go_wp2_with fail
            refine (hFr _).mono ?_
            rintro e w2 ⟨rfl, rfl⟩
            go_wp2_with fail
            refine (Ldexp_any Y l _ hay (unhide HLd) _).mono ?_
            rintro e w2 ⟨rfl, rfl⟩
            go_wp2_with fail
            exact ⟨⟨n, r', rfl, unhide HR, trivial⟩, unhide HL⟩
          · rw [if_pos hfr] at hl
            have HLd := hide hl
            clear hl
            have hFr := Frexp_any r hok
            generalize frF r = fr at *
            generalize exF r = ex at *
            go_wp2_with fail
            refine (hFr _).mono ?_
            rintro e w2 ⟨rfl, rfl⟩
            go_wp2_with fail
            refine (Ldexp_any Y l _ hay (unhide HLd) _).mono ?_
            rintro e w2 ⟨rfl, rfl⟩
            go_wp2_with fail
            exact ⟨⟨n, r', rfl, unhide HR, trivial⟩, unhide HL⟩
  case true =>
    simp only [if_true] at hr0 ⊢
    subst hr0
    go_enter Ybad.func35, Ybad.ntmps35
    go_wp2_with fail
    refine (isInf_any x hx _).mono ?_
    rintro e w1 ⟨rfl, rfl⟩
    go_wp2_with fail
    refine (isNaN_any x hx _).mono ?_
    rintro e w1 ⟨rfl, rfl⟩
    go_wp2_with fail
    refine (isNaN_any y hyf _).mono ?_
    rintro e w1 ⟨rfl, rfl⟩
    go_wp2_with fail
    refine (hax _).mono ?_
    rintro e w1 ⟨rfl, rfl⟩
    go_wp2_with fail
    refine (Frexp_any Y hay _).mono ?_
    rintro e w1 ⟨rfl, rfl⟩
    go_wp2_with fail
    go_loopw [7, 8, 9] (fun s _ _ wr => ∃ n r, s = .float .f64 r ∧ modRun n r Y = some res ∧ w1 = wr) (fun s _ _ _ => floatNat s)
    case atStart => exact ⟨80, fneg x, rfl, h, rfl⟩
    case round =>
      obtain ⟨n, r, rfl, hrun, rfl⟩ := hrel
      have hb := exF_bounds r
      have hbY := exF_bounds Y
      rcases hge : (FloatKind.f64.format.order r Y == some .gt || FloatKind.f64.format.order r Y == some .eq) with _ | _
      · have hres : r = res := by
          cases n with
          | zero => unfold modRun at hrun; rw [if_neg (Bool.eq_false_iff.1 hge)] at hrun; exact Option.some.inj hrun
          | succ n => unfold modRun at hrun; rw [if_neg (Bool.eq_false_iff.1 hge)] at hrun; exact Option.some.inj hrun
        subst hres
        clear hrun hb hbY
        go_wp2_with fail
        go_wp2_with fail
        go_ret
        exact ⟨rfl, rfl⟩
      · cases n with
        | zero => unfold modRun at hrun; rw [if_pos hge] at hrun; cases hrun
        | succ n =>
          unfold modRun at hrun
          rw [if_pos hge] at hrun
          by_cases hok : okN r = true
          case neg => rw [if_neg hok] at hrun; cases hrun
          rw [if_pos hok] at hrun
          unfold modStep at hrun
          simp only [Option.bind_eq_some_iff] at hrun
          obtain ⟨r', ⟨l, hl, hsub⟩, hrun⟩ := hrun
          by_cases hlt : r' < r
          case neg => rw [if_neg hlt] at hrun; cases hrun
          rw [if_pos hlt] at hrun
          replace hsub := run_op hsub
          have HR := hide hrun
          have HL := hide hlt
          have d1 : wrap64 (exF r - 1) = exF r - 1 := by unfold wrap64; omega
          have d2 : wrap64 (exF r - 1 - exF Y) = exF r - 1 - exF Y := by unfold wrap64; omega
          have d3 : wrap64 (exF r - exF Y) = exF r - exF Y := by unfold wrap64; omega
          clear hrun hlt hb hbY
          rcases hfr : (FloatKind.f64.format.order (frF r) (frF Y) == some .lt) with _ | _
          · rw [if_neg (Bool.eq_false_iff.1 hfr)] at hl
            have HLd := hide hl
            clear hl
            have hFr := Frexp_any r hok
            generalize frF r = fr at *
            generalize exF r = ex at *
            go_wp2_with fail
            refine (hFr _).mono ?_
            rintro e w2 ⟨rfl, rfl⟩
            go_wp2_with fail
            refine (Ldexp_any Y l _ hay (unhide HLd) _).mono ?_
            rintro e w2 ⟨rfl, rfl⟩
            go_wp2_with fail
            exact ⟨⟨n, r', rfl, unhide HR, trivial⟩, unhide HL⟩
          · rw [if_pos hfr] at hl
            have HLd := hide hl
            clear hl
            have hFr := Frexp_any r hok
            generalize frF r = fr at *
            generalize exF r = ex at *
            go_wp2_with fail
            refine (hFr _).mono ?_
            rintro e w2 ⟨rfl, rfl⟩
            go_wp2_with fail
            refine (Ldexp_any Y l _ hay (unhide HLd) _).mono ?_
            rintro e w2 ⟨rfl, rfl⟩
            go_wp2_with fail
            exact ⟨⟨n, r', rfl, unhide HR, trivial⟩, unhide HL⟩

theorem mod_any (x y r : Nat) (h : modF x y = some r) (w : World) :
    Calls Ybad.prog 35 #[.float .f64 x, .float .f64 y] w fun e w' => e = .returned (.float .f64 r) ∧ w' = w := by
  unfold modF at h
  by_cases hg : (fineB x && okN (absW y) && okN y) = true
  case neg => rw [if_neg hg] at h; cases h
  rw [if_pos hg] at h
  simp only [Bool.and_eq_true] at hg
  by_cases hs : (FloatKind.f64.format.order x 0 == some .lt) = true
  · rw [if_pos hs] at h
    simp only [Option.bind_eq_some_iff] at h
    obtain ⟨r', hr', e⟩ := h
    cases e
    exact mod_core true x _ y r' hs rfl (fine_of hg.1.1) hg.2 hg.1.2 hr' w
  · rw [if_neg hs] at h
    exact mod_core false x _ y r (Bool.eq_false_iff.2 hs) rfl (fine_of hg.1.1) hg.2 hg.1.2 h w

theorem Mod_any (x y r : Nat) (h : modF x y = some r) (w : World) :
    Calls Ybad.prog 25 #[.float .f64 x, .float .f64 y] w fun e w' => e = .returned (.float .f64 r) ∧ w' = w := by
  go_enter Ybad.func25, Ybad.ntmps25
  go_wp2_with fail
  refine (mod_any x y r h _).mono ?_
  rintro e w1 ⟨rfl, rfl⟩
  go_wp2_with fail
  go_ret
  exact ⟨rfl, rfl⟩

def floorModF (x : Nat) (n : Int) : Option Nat := (modF x (floatOfInt .f64 n)).bind fun r => if fltB r 0 then fa r (floatOfInt .f64 n) else some r
theorem floorMod_any (x r : Nat) (n : Int) (h : floorModF x n = some r) (w : World) :
    Calls Ybad.prog 17 #[.float .f64 x, .int .i64 n] w fun e w' => e = .returned (.float .f64 r) ∧ w' = w := by
  unfold floorModF at h
  simp only [Option.bind_eq_some_iff] at h
  obtain ⟨q, hq, h⟩ := h
  by_cases hs : (FloatKind.f64.format.order q 0 == some .lt) = true
  · rw [if_pos hs] at h
    replace h := run_op h
    go_enter Ybad.func17, Ybad.ntmps17
    go_wp2_with fail
    refine (Mod_any x (floatOfInt .f64 n) _ hq _).mono ?_
    rintro e w1 ⟨rfl, rfl⟩
    go_wp2_with fail
    go_ret
    exact ⟨rfl, rfl⟩
  · rw [if_neg hs] at h
    have e : r = q := (Option.some.inj h).symm
    subst e
    clear h
    replace hs := Bool.eq_false_iff.2 hs
    go_enter Ybad.func17, Ybad.ntmps17
    go_wp2_with fail
    refine (Mod_any x (floatOfInt .f64 n) _ hq _).mono ?_
    rintro e w1 ⟨rfl, rfl⟩
    go_wp2_with fail
    go_ret
    exact ⟨rfl, rfl⟩

end Go.Proofs.YbulkcyuwDoor
