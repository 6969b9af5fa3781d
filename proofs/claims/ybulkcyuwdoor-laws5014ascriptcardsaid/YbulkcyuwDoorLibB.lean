/-
  cos (37), Cos (28), NL (19).
-/
import Derived.Test.YbulkcyuwDoorLibA
namespace Go.Proofs.YbulkcyuwDoor
open Go.RowKit

/-- Block g holds these float64s. -/
def FTab (g : Nat) (tab : List Nat) (w : World) : Prop := ∀ j, j < tab.length → w.cell? ⟨g, j, none⟩ = some (.float .f64 (tab.getD j 0))
def sinTab : List Nat := [4460209587652500685, 13716528389658582877, 4523617212962785441, 13774824197404483331, 4575957461383575504, 13818544856648471880]
def cosTab : List Nat := [13666448263388469915, 4477121864728985349, 13732177093698800582, 4537941361668146421, 13787419979223748497, 4586165620538955083]
/-- The two tables of the cosine stand in their places. -/
def Trig (w : World) : Prop := FTab 4 sinTab w ∧ FTab 5 cosTab w

set_option maxHeartbeats 1000000 in
set_option maxRecDepth 100000 in
theorem cos0_walk (x p r : Nat) (hx : Fine x) (hp : fm (absW x) 4608412980311869571 = some p) (hj : floatToIntVal .f64 p .u64 = some 0) (h29 : (FloatKind.f64.format.order (absW x) 4737786807993761792 == some .gt || FloatKind.f64.format.order (absW x) 4737786807993761792 == some .eq) = false)
    (h : cos0F (absW x) = some r) (w : World) (hT : FTab 5 cosTab w) :
    Calls Ybad.prog 37 #[.float .f64 x] w fun e w' => e = .returned (.float .f64 r) ∧ w' = w := by
  have c0 : w.cell? ⟨5, 0, none⟩ = some (.float .f64 13666448263388469915) := hT 0 (by decide)
  have c1 : w.cell? ⟨5, 1, none⟩ = some (.float .f64 4477121864728985349) := hT 1 (by decide)
  have c2 : w.cell? ⟨5, 2, none⟩ = some (.float .f64 13732177093698800582) := hT 2 (by decide)
  have c3 : w.cell? ⟨5, 3, none⟩ = some (.float .f64 4537941361668146421) := hT 3 (by decide)
  have c4 : w.cell? ⟨5, 4, none⟩ = some (.float .f64 13787419979223748497) := hT 4 (by decide)
  have c5 : w.cell? ⟨5, 5, none⟩ = some (.float .f64 4586165620538955083) := hT 5 (by decide)
  clear hT
  have hax := abs_any x hx.1
  generalize absW x = X at *
  unfold cos0F octant cosPoly at h
  simp only [Option.bind_eq_some_iff] at h
  obtain ⟨z, ⟨a, ha, b, hb, c, hc, d, hd, e, he, hz⟩, zz, hzz, hh, hhh, gg, hgg, sq, hsq, p0, h0, p1, h1, p2, h2, p3, h3, p4, h4, p5, h5, p6, h6, p7, h7, p8, h8, p9, h9, bb, hbb, hr⟩ := h
  have hcv : ∀ w, (convert 32 70 (.float .f64 p)).run Ybad.prog w = .ok (.int .u64 0) w := fun w => run_convert_float_int w 32 70 .f64 .u64 p 0 (by rw [Ybad.underlying32]; rfl) Ybad.underlying70 hj
  have hf0 : floatOfInt .f64 0 = 0 := by decide +kernel
  replace hp := run_op hp
  replace ha := run_op ha
  replace hb := run_op hb
  replace hc := run_op hc
  replace hd := run_op hd
  replace he := run_op he
  replace hz := run_op hz
  replace hzz := run_op hzz
  replace hhh := run_op hhh
  replace hgg := run_op hgg
  replace hsq := run_op hsq
  replace h0 := run_op h0
  replace h1 := run_op h1
  replace h2 := run_op h2
  replace h3 := run_op h3
  replace h4 := run_op h4
  replace h5 := run_op h5
  replace h6 := run_op h6
  replace h7 := run_op h7
  replace h8 := run_op h8
  replace h9 := run_op h9
  replace hbb := run_op hbb
  replace hr := run_op hr
  go_enter Ybad.func37, Ybad.ntmps37
  go_wp2_with fail
  refine (isNaN_any x hx _).mono ?_
  rintro e w1 ⟨rfl, rfl⟩
  go_wp2_with fail
  refine (isInf_any x hx _).mono ?_
  rintro e w1 ⟨rfl, rfl⟩
  go_wp2_with fail
  refine (hax _).mono ?_
  rintro e w1 ⟨rfl, rfl⟩
  go_wp2_with fail
  go_ret
  exact ⟨rfl, rfl⟩

set_option maxHeartbeats 1000000 in
set_option maxRecDepth 100000 in
theorem cos2_walk (x p r : Nat) (hx : Fine x) (hp : fm (absW x) 4608412980311869571 = some p) (hj : floatToIntVal .f64 p .u64 = some 1) (h29 : (FloatKind.f64.format.order (absW x) 4737786807993761792 == some .gt || FloatKind.f64.format.order (absW x) 4737786807993761792 == some .eq) = false)
    (h : cos2F (absW x) = some r) (w : World) (hT : FTab 4 sinTab w) :
    Calls Ybad.prog 37 #[.float .f64 x] w fun e w' => e = .returned (.float .f64 r) ∧ w' = w := by
  have c0 : w.cell? ⟨4, 0, none⟩ = some (.float .f64 4460209587652500685) := hT 0 (by decide)
  have c1 : w.cell? ⟨4, 1, none⟩ = some (.float .f64 13716528389658582877) := hT 1 (by decide)
  have c2 : w.cell? ⟨4, 2, none⟩ = some (.float .f64 4523617212962785441) := hT 2 (by decide)
  have c3 : w.cell? ⟨4, 3, none⟩ = some (.float .f64 13774824197404483331) := hT 3 (by decide)
  have c4 : w.cell? ⟨4, 4, none⟩ = some (.float .f64 4575957461383575504) := hT 4 (by decide)
  have c5 : w.cell? ⟨4, 5, none⟩ = some (.float .f64 13818544856648471880) := hT 5 (by decide)
  clear hT
  have hax := abs_any x hx.1
  generalize absW x = X at *
  unfold cos2F octant sinPoly at h
  simp only [Option.bind_eq_some_iff] at h
  obtain ⟨z, ⟨a, ha, b, hb, c, hc, d, hd, e, he, hz⟩, zz, hzz, y, ⟨sq, hsq, p0, h0, p1, h1, p2, h2, p3, h3, p4, h4, p5, h5, p6, h6, p7, h7, p8, h8, p9, h9, bb, hbb, hr⟩, hfin⟩ := h
  have hcv : ∀ w, (convert 32 70 (.float .f64 p)).run Ybad.prog w = .ok (.int .u64 1) w := fun w => run_convert_float_int w 32 70 .f64 .u64 p 1 (by rw [Ybad.underlying32]; rfl) Ybad.underlying70 hj
  have hf0 : floatOfInt .f64 1 = 4607182418800017408 := by decide +kernel
  cases hfin
  have hng := run_neg
  have hone : ∀ t w, (binOp .add t (.float .f64 4607182418800017408) (.float .f64 4607182418800017408)).run Ybad.prog w = .ok (.float .f64 4611686018427387904) w := run_op (by decide +kernel)
  replace hp := run_op hp
  replace ha := run_op ha
  replace hb := run_op hb
  replace hc := run_op hc
  replace hd := run_op hd
  replace he := run_op he
  replace hz := run_op hz
  replace hzz := run_op hzz
  replace hsq := run_op hsq
  replace h0 := run_op h0
  replace h1 := run_op h1
  replace h2 := run_op h2
  replace h3 := run_op h3
  replace h4 := run_op h4
  replace h5 := run_op h5
  replace h6 := run_op h6
  replace h7 := run_op h7
  replace h8 := run_op h8
  replace h9 := run_op h9
  replace hbb := run_op hbb
  replace hr := run_op hr
  go_enter Ybad.func37, Ybad.ntmps37
  go_wp2_with fail
  refine (isNaN_any x hx _).mono ?_
  rintro e w1 ⟨rfl, rfl⟩
  go_wp2_with fail
  refine (isInf_any x hx _).mono ?_
  rintro e w1 ⟨rfl, rfl⟩
  go_wp2_with fail
  refine (hax _).mono ?_
  rintro e w1 ⟨rfl, rfl⟩
  go_wp2_with fail
  go_ret
  exact ⟨rfl, rfl⟩


theorem cos_any (x r : Nat) (h : cosF x = some r) (w : World) (hT : Trig w) :
    Calls Ybad.prog 37 #[.float .f64 x] w fun e w' => e = .returned (.float .f64 r) ∧ w' = w := by
  unfold cosF at h
  by_cases hg : (fineB x && decide (val (absW x) < val 4737786807993761792)) = true
  · rw [if_pos hg] at h
    simp only [Bool.and_eq_true, decide_eq_true_eq] at hg
    have hx := fine_of hg.1
    have hlt := hg.2
    have h29 : (FloatKind.f64.format.order (absW x) 4737786807993761792 == some .gt || FloatKind.f64.format.order (absW x) 4737786807993761792 == some .eq) = false := by
      have := fgeB_fine (absW_fine hx) (fine_of (w := 4737786807993761792) (by kernel_rfl))
      refine Eq.trans this (decide_eq_false ?_)
      omega
    unfold cosA at h
    simp only [Option.bind_eq_some_iff] at h
    obtain ⟨p, hp, j, hj, h⟩ := h
    by_cases h0 : j = 0
    · rw [if_pos h0] at h; subst h0
      exact cos0_walk x p r hx hp hj h29 h w hT.2
    · rw [if_neg h0] at h
      by_cases h1 : j = 1
      · rw [if_pos h1] at h; subst h1
        exact cos2_walk x p r hx hp hj h29 h w hT.1
      · rw [if_neg h1] at h; cases h
  · rw [if_neg hg] at h; cases h

theorem Cos_any (x r : Nat) (h : cosF x = some r) (w : World) (hT : Trig w) :
    Calls Ybad.prog 28 #[.float .f64 x] w fun e w' => e = .returned (.float .f64 r) ∧ w' = w := by
  have HT := hide hT
  clear hT
  go_enter Ybad.func28, Ybad.ntmps28
  go_wp2_with fail
  refine (cos_any x r h _ (unhide HT)).mono ?_
  rintro e w1 ⟨rfl, rfl⟩
  go_wp2_with fail
  go_ret
  exact ⟨rfl, rfl⟩

set_option maxHeartbeats 1000000 in
set_option maxRecDepth 100000 in
theorem nl_walk (x : Nat) (n : Int) (hx : Fine x) (h : nlF x = some n) (w : World) (hT : Trig w) :
    Calls Ybad.prog 19 #[.float .f64 x] w fun e w' => e = .returned (.int .i64 n) ∧ w' = w := by
  have HT := hide hT
  clear hT
  unfold nlF at h
  simp only [] at h
  have hax := abs_any x hx.1
  generalize absW x = a at *
  by_cases h0 : (FloatKind.f64.format.order a 0 == some .eq) = true
  · rw [if_pos h0] at h
    cases h
    go_enter Ybad.func19, Ybad.ntmps19
    go_wp2_with fail
    refine (hax _).mono ?_
    rintro e w1 ⟨rfl, rfl⟩
    go_wp2_with fail
    go_ret
    exact ⟨rfl, rfl⟩
  rw [if_neg h0] at h
  replace h0 := Bool.eq_false_iff.2 h0
  by_cases h1 : (FloatKind.f64.format.order a 4635822497680326656 == some .eq) = true
  · rw [if_pos h1] at h
    cases h
    go_enter Ybad.func19, Ybad.ntmps19
    go_wp2_with fail
    refine (hax _).mono ?_
    rintro e w1 ⟨rfl, rfl⟩
    go_wp2_with fail
    go_ret
    exact ⟨rfl, rfl⟩
  rw [if_neg h1] at h
  replace h1 := Bool.eq_false_iff.2 h1
  by_cases h2 : (FloatKind.f64.format.order a 4635822497680326656 == some .gt) = true
  · rw [if_pos h2] at h
    cases h
    go_enter Ybad.func19, Ybad.ntmps19
    go_wp2_with fail
    refine (hax _).mono ?_
    rintro e w1 ⟨rfl, rfl⟩
    go_wp2_with fail
    go_ret
    exact ⟨rfl, rfl⟩
  rw [if_neg h2] at h
  replace h2 := Bool.eq_false_iff.2 h2
  simp only [Option.bind_eq_some_iff] at h
  obtain ⟨b, hb, d, hd, c, hc, k, hk, e, he, cc, hcc, t, ht, u, hu, v, hv, q, hq, hn⟩ := h
  by_cases hqf : fineB q = true
  case neg => rw [if_neg hqf] at hn; cases hn
  rw [if_pos hqf] at hn
  have hcv : ∀ w, (convert 32 3 (.float .f64 (floorW q))).run Ybad.prog w = .ok (.int .i64 n) w := fun w => run_convert_float_int w 32 3 .f64 .i64 (floorW q) n (by rw [Ybad.underlying32]; rfl) Ybad.underlying3 hn
  replace hb := run_op hb
  replace hd := run_op hd
  replace he := run_op he
  replace hcc := run_op hcc
  replace ht := run_op ht
  replace hu := run_op hu
  replace hq := run_op hq
  go_enter Ybad.func19, Ybad.ntmps19
  go_wp2_with fail
  refine (hax _).mono ?_
  rintro e w1 ⟨rfl, rfl⟩
  go_wp2_with fail
  refine (Cos_any d c hc _ (unhide HT)).mono ?_
  rintro e w1 ⟨rfl, rfl⟩
  go_wp2_with fail
  refine (Cos_any _ k hk _ (unhide HT)).mono ?_
  rintro e w1 ⟨rfl, rfl⟩
  go_wp2_with fail
  refine (Acos_any u v hv _).mono ?_
  rintro e w1 ⟨rfl, rfl⟩
  go_wp2_with fail
  refine (floor_any q (fine_of hqf) _).mono ?_
  rintro e w1 ⟨rfl, rfl⟩
  go_wp2_with fail
  go_ret
  exact ⟨rfl, rfl⟩

end Go.Proofs.YbulkcyuwDoor
