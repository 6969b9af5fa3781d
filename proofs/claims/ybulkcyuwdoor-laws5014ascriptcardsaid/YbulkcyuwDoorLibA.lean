/-
  IsNaN (31), IsInf (32), Floor (15), Sqrt (60), xatan (63), satan (61), asin (57), Asin (46), acos (39), Acos (29).
-/
import Derived.Test.YbulkcyuwDoorExt
import Derived.Test.YbulkcyuwDoorTrig
namespace Go.Proofs.YbulkcyuwDoor
open Go.RowKit

theorem isNaN_any (x : Nat) (hx : Fine x) (w : World) :
    Calls Ybad.prog 31 #[.float .f64 x] w fun e w' => e = .returned (.bool false) ∧ w' = w := by
  have h : (FloatKind.f64.format.order x x != some .eq) = false := by
    have h1 : FloatKind.f64.format.order x x = some (compare (val x) (val x)) := ford_fine hx hx
    rw [cmp_eq rfl] at h1
    rw [h1]; rfl
  go_enter Ybad.func31, Ybad.ntmps31
  go_wp2_with fail
  go_ret
  exact ⟨rfl, rfl⟩

theorem isInf_any (x : Nat) (hx : Fine x) (w : World) :
    Calls Ybad.prog 32 #[.float .f64 x, .int .i64 0] w fun e w' => e = .returned (.bool false) ∧ w' = w := by
  have h : (FloatKind.f64.format.order (absW x) 9218868437227405311 == some .gt) = false := by
    have h1 := absW_fine hx
    have := fgtB_fine h1 (fine_of (w := 9218868437227405311) (by kernel_rfl))
    refine Eq.trans this (decide_eq_false ?_)
    have hv : val 9218868437227405311 = (mag 9218868437227405311 : Int) := by decide +kernel
    rw [absW_val, hv]
    have := mag_mono (r := x % 2 ^ 63) (s := 9218868437227405311) (by have := hx.2; omega)
    omega
  go_enter Ybad.func32, Ybad.ntmps32
  go_wp2_with fail
  refine (abs_any x hx.1 _).mono ?_
  rintro e w1 ⟨rfl, rfl⟩
  go_wp2_with fail
  go_ret
  exact ⟨rfl, rfl⟩

theorem floor_any (x : Nat) (hx : Fine x) (w : World) :
    Calls Ybad.prog 15 #[.float .f64 x] w fun e w' => e = .returned (.float .f64 (floorW x)) ∧ w' = w := by
  have h := call_floor x hx
  go_enter Ybad.func15, Ybad.ntmps15
  go_wp2_with fail
  go_ret
  exact ⟨rfl, rfl⟩

theorem sqrt_any (x r : Nat) (h : Ieee.double.sqrt x = some r) (w : World) :
    Calls Ybad.prog 60 #[.float .f64 x] w fun e w' => e = .returned (.float .f64 r) ∧ w' = w := by
  have h := call_sqrt x r h
  go_enter Ybad.func60, Ybad.ntmps60
  go_wp2_with fail
  go_ret
  exact ⟨rfl, rfl⟩

/-- The four operations, as the walk meets them. -/
theorem run_op {op : BinOp} {x y r : Nat} (h : floatBits op .f64 x y = some r) (t : TypeId) (w : World) : (binOp op t (.float .f64 x) (.float .f64 y)).run Ybad.prog w = .ok (.float .f64 r) w :=
  run_float_arith w op t .f64 x y r h

theorem run_neg (x : Nat) (w : World) : (Op.unary .neg (.float .f64 x)).run Ybad.prog w = .ok (.float .f64 (fneg x)) w := rfl

set_option maxHeartbeats 1000000 in
set_option maxRecDepth 100000 in
theorem xatan_any (x r : Nat) (h : xatanF x = some r) (w : World) :
    Calls Ybad.prog 63 #[.float .f64 x] w fun e w' => e = .returned (.float .f64 r) ∧ w' = w := by
  unfold xatanF at h
  simp only [Option.bind_eq_some_iff] at h
  obtain ⟨z, hz, p0, h0, p1, h1, p2, h2, p3, h3, p4, h4, p5, h5, p6, h6, p7, h7, p8, h8, q0, k0, q1, k1, q2, k2, q3, k3, q4, k4, q5, k5, q6, k6, q7, k7, q8, k8, u, hu, v, hv, hr⟩ := h
  replace hz := run_op hz
  replace h0 := run_op h0
  replace h1 := run_op h1
  replace h2 := run_op h2
  replace h3 := run_op h3
  replace h4 := run_op h4
  replace h5 := run_op h5
  replace h6 := run_op h6
  replace h7 := run_op h7
  replace h8 := run_op h8
  replace k0 := run_op k0
  replace k1 := run_op k1
  replace k2 := run_op k2
  replace k3 := run_op k3
  replace k4 := run_op k4
  replace k5 := run_op k5
  replace k6 := run_op k6
  replace k7 := run_op k7
  replace k8 := run_op k8
  replace hu := run_op hu
  replace hv := run_op hv
  replace hr := run_op hr
  go_enter Ybad.func63, Ybad.ntmps63
  go_wp2_with fail
  go_ret
  exact ⟨rfl, rfl⟩

/-- A branch of a comparison, as the walk meets it. -/
theorem satan_any_walk (x r : Nat) (h : satanF x = some r) (w : World) :
    Calls Ybad.prog 61 #[.float .f64 x] w fun e w' => e = .returned (.float .f64 r) ∧ w' = w := by
  unfold satanF at h
  by_cases h1 : (FloatKind.f64.format.order x 4604119971053405471 == some .lt || FloatKind.f64.format.order x 4604119971053405471 == some .eq) = true
  · rw [if_pos h1] at h
    go_enter Ybad.func61, Ybad.ntmps61
    go_wp2_with fail
    refine (xatan_any x r h _).mono ?_
    rintro e w1 ⟨rfl, rfl⟩
    go_wp2_with fail
    go_ret
    exact ⟨rfl, rfl⟩
  · rw [if_neg h1] at h
    have h1' := Bool.eq_false_iff.2 h1
    by_cases h2 : (FloatKind.f64.format.order x 4612618744449965542 == some .gt) = true
    · rw [if_pos h2] at h; cases h
    · rw [if_neg h2] at h
      have h2' := Bool.eq_false_iff.2 h2
      simp only [Option.bind_eq_some_iff] at h
      obtain ⟨a, ha, b, hb, c, hc, d, hd, e, he, hr⟩ := h
      replace ha := run_op ha
      replace hb := run_op hb
      replace hc := run_op hc
      replace he := run_op he
      replace hr := run_op hr
      clear h1 h2
      go_enter Ybad.func61, Ybad.ntmps61
      go_wp2_with fail
      refine (xatan_any c d hd _).mono ?_
      rintro e w1 ⟨rfl, rfl⟩
      go_wp2_with fail
      go_ret
      exact ⟨rfl, rfl⟩

theorem asinC_walk (neg : Bool) (x y r : Nat) (hneg : (FloatKind.f64.format.order x 0 == some .eq) = false) (hs : (FloatKind.f64.format.order x 0 == some .lt) = neg) (hy : y = if neg then fneg x else x) (h : asinC y = some r) (w : World) :
    Calls Ybad.prog 57 #[.float .f64 x] w fun e w' => e = .returned (.float .f64 (if neg then fneg r else r)) ∧ w' = w := by
  unfold asinC at h
  by_cases h1 : (FloatKind.f64.format.order y 4607182418800017408 == some .gt) = true
  · rw [if_pos h1] at h; cases h
  · rw [if_neg h1] at h
    have h1' := Bool.eq_false_iff.2 h1
    simp only [Option.bind_eq_some_iff] at h
    obtain ⟨a, ha, b, hb, t, ht, h⟩ := h
    replace ha := run_op ha
    replace hb := run_op hb
    by_cases h2 : (FloatKind.f64.format.order y 4604480259023595110 == some .gt) = true
    · rw [if_pos h2] at h
      simp only [Option.bind_eq_some_iff] at h
      obtain ⟨c, hc, d, hd, hr⟩ := h
      replace hc := run_op hc
      replace hr := run_op hr
      clear h1
      cases neg
      · simp only [Bool.false_eq_true, if_false] at hy ⊢
        subst hy
        go_enter Ybad.func57, Ybad.ntmps57
        go_wp2_with fail
        refine (sqrt_any b t ht _).mono ?_
        rintro e w1 ⟨rfl, rfl⟩
        go_wp2_with fail
        refine (satan_any_walk c d hd _).mono ?_
        rintro e w1 ⟨rfl, rfl⟩
        go_wp2_with fail
        go_ret
        exact ⟨rfl, rfl⟩
      · simp only [if_true] at hy ⊢
        subst hy
        have hng := run_neg
        go_enter Ybad.func57, Ybad.ntmps57
        go_wp2_with fail
        refine (sqrt_any b t ht _).mono ?_
        rintro e w1 ⟨rfl, rfl⟩
        go_wp2_with fail
        refine (satan_any_walk c d hd _).mono ?_
        rintro e w1 ⟨rfl, rfl⟩
        go_wp2_with fail
        go_ret
        exact ⟨rfl, rfl⟩
    · rw [if_neg h2] at h
      have h2' := Bool.eq_false_iff.2 h2
      simp only [Option.bind_eq_some_iff] at h
      obtain ⟨c, hc, hd⟩ := h
      replace hc := run_op hc
      clear h1 h2
      cases neg
      · simp only [Bool.false_eq_true, if_false] at hy ⊢
        subst hy
        go_enter Ybad.func57, Ybad.ntmps57
        go_wp2_with fail
        refine (sqrt_any b t ht _).mono ?_
        rintro e w1 ⟨rfl, rfl⟩
        go_wp2_with fail
        refine (satan_any_walk c r hd _).mono ?_
        rintro e w1 ⟨rfl, rfl⟩
        go_wp2_with fail
        go_ret
        exact ⟨rfl, rfl⟩
      · simp only [if_true] at hy ⊢
        subst hy
        have hng := run_neg
        go_enter Ybad.func57, Ybad.ntmps57
        go_wp2_with fail
        refine (sqrt_any b t ht _).mono ?_
        rintro e w1 ⟨rfl, rfl⟩
        go_wp2_with fail
        refine (satan_any_walk c r hd _).mono ?_
        rintro e w1 ⟨rfl, rfl⟩
        go_wp2_with fail
        go_ret
        exact ⟨rfl, rfl⟩

theorem asin_any (x r : Nat) (h : asinF x = some r) (w : World) :
    Calls Ybad.prog 57 #[.float .f64 x] w fun e w' => e = .returned (.float .f64 r) ∧ w' = w := by
  unfold asinF at h
  by_cases h1 : (FloatKind.f64.format.order x 0 == some .eq) = true
  · rw [if_pos h1] at h
    cases h
    go_enter Ybad.func57, Ybad.ntmps57
    go_wp2_with fail
    go_ret
    exact ⟨rfl, rfl⟩
  · rw [if_neg h1] at h
    by_cases h2 : (FloatKind.f64.format.order x 0 == some .lt) = true
    · rw [if_pos h2] at h
      simp only [Option.bind_eq_some_iff] at h
      obtain ⟨r', hr', e⟩ := h
      cases e
      exact asinC_walk true x _ r' (Bool.eq_false_iff.2 h1) h2 rfl hr' w
    · rw [if_neg h2] at h
      exact asinC_walk false x _ r (Bool.eq_false_iff.2 h1) (Bool.eq_false_iff.2 h2) rfl h w

theorem Asin_any (x r : Nat) (h : asinF x = some r) (w : World) :
    Calls Ybad.prog 46 #[.float .f64 x] w fun e w' => e = .returned (.float .f64 r) ∧ w' = w := by
  go_enter Ybad.func46, Ybad.ntmps46
  go_wp2_with fail
  refine (asin_any x r h _).mono ?_
  rintro e w1 ⟨rfl, rfl⟩
  go_wp2_with fail
  go_ret
  exact ⟨rfl, rfl⟩
theorem acos_any (x r : Nat) (h : acosF x = some r) (w : World) :
    Calls Ybad.prog 39 #[.float .f64 x] w fun e w' => e = .returned (.float .f64 r) ∧ w' = w := by
  unfold acosF at h
  simp only [Option.bind_eq_some_iff] at h
  obtain ⟨a, ha, hr⟩ := h
  replace hr := run_op hr
  go_enter Ybad.func39, Ybad.ntmps39
  go_wp2_with fail
  refine (Asin_any x a ha _).mono ?_
  rintro e w1 ⟨rfl, rfl⟩
  go_wp2_with fail
  go_ret
  exact ⟨rfl, rfl⟩
theorem Acos_any (x r : Nat) (h : acosF x = some r) (w : World) :
    Calls Ybad.prog 29 #[.float .f64 x] w fun e w' => e = .returned (.float .f64 r) ∧ w' = w := by
  go_enter Ybad.func29, Ybad.ntmps29
  go_wp2_with fail
  refine (acos_any x r h _).mono ?_
  rintro e w1 ⟨rfl, rfl⟩
  go_wp2_with fail
  go_ret
  exact ⟨rfl, rfl⟩

end Go.Proofs.YbulkcyuwDoor
