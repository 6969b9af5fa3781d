/-
  The zones: the latitude that a zone's number and a fraction give is never within a hair of 87 from below. Laid by a program of mine, case by case.
-/
import Derived.Test.YbulkcyuwDoorTrig
namespace Go.Proofs.YbulkcyuwDoor
open Ieee

/-- A 17-bit number as a fraction of a zone. -/
def frac (k : Nat) : Option Nat := fq (floatOfInt .f64 (k : Int)) 4683743612465315840

def chkFrac (lo hi L H : Nat) : Bool := fineB (double.nearest false lo 0) && fineB (double.nearest false hi 0) && decide (val (double.nearest false lo 0) = (lo : Int) * scale) && decide (val (double.nearest false hi 0) = (hi : Int) * scale)
  && chkDiv (double.nearest false lo 0) (double.nearest false hi 0) 4683743612465315840 4683743612465315840 L H
theorem frac_bt {k : Nat} (lo hi L H : Nat) (h1 : lo ≤ k) (h2 : k ≤ hi) (hc : chkFrac lo hi L H = true) : ∃ r, frac k = some r ∧ Bt L r H := by
  unfold chkFrac at hc
  simp only [Bool.and_eq_true, decide_eq_true_eq] at hc
  obtain ⟨⟨⟨⟨c1, c2⟩, c3⟩, c4⟩, c5⟩ := hc
  have hs := scale_pos
  have bk : Bt (double.nearest false lo 0) (double.nearest false k 0) (double.nearest false hi 0) := by
    refine near_whole (fine_of c1) (fine_of c2) ?_ ?_
    · rw [c3]; simp only [sgn, Bool.false_eq_true, if_false]; exact Int.mul_le_mul_of_nonneg_right (by omega) (Int.le_of_lt hs)
    · rw [c4]; simp only [sgn, Bool.false_eq_true, if_false]; exact Int.mul_le_mul_of_nonneg_right (by omega) (Int.le_of_lt hs)
  exact div_bt L H bk (Bt.const (by kernel_rfl)) c5

/-- A whole number's word between two. -/
theorem whole_between {m : Nat} {N lo hi : Int} {L H : Nat} (hf : Fine m) (hv : val m = N * scale) (h1 : lo ≤ N) (h2 : N ≤ hi) (hc : (decide (val L = lo * scale) && decide (val H = hi * scale)) = true) : Bt L m H := by
  simp only [Bool.and_eq_true, decide_eq_true_eq] at hc
  have hs := scale_pos
  refine ⟨hf, ?_, ?_⟩
  · rw [hc.1, hv]; exact Int.mul_le_mul_of_nonneg_right h1 (Int.le_of_lt hs)
  · rw [hc.2, hv]; exact Int.mul_le_mul_of_nonneg_right h2 (Int.le_of_lt hs)

/-- Where a latitude may lie, ahead of the turn at 270. -/
def Gap (t : Nat) : Prop := Bt 13861727809325498368 t 13859194534535102464 ∨ Bt 13859194533831415022 t 4635822496976639214 ∨ Bt 4635822497680326656 t 4643510282981736448 ∨ Bt 4643510283175250494 t 4645269501586178048

theorem ev_0 {m y k : Nat} {N : Int} (hf : Fine m) (hv : val m = N * scale) (hN1 : -20 ≤ N) (hN2 : N ≤ -16) (hk1 : 0 ≤ k) (hk2 : k ≤ 131071) (hy : frac k = some y) : ∃ s, fa m y = some s ∧ ∃ t, fm 4618441417868443648 s = some t ∧ Gap t := by
  have bm : Bt 13849694754071117824 m 13848568854164275200 := whole_between hf hv hN1 hN2 (by kernel_rfl)
  obtain ⟨y', hy', by_⟩ := frac_bt 0 131071 0 4607182350080540672 hk1 hk2 (by kernel_rfl)
  have ey : y' = y := Option.some.inj (hy'.symm.trans hy)
  subst ey
  obtain ⟨n1, hn1, bn1⟩ := add_bt 13849694754071117824 13848005908505821184 bm by_ (by kernel_rfl)
  obtain ⟨n2, hn2, bn2⟩ := mul_bt 13861516703092965376 13859405643988860928 (Bt.const (k := 4618441417868443648) (by kernel_rfl)) bn1 (by kernel_rfl)
  exact ⟨n1, hn1, n2, hn2, .inl (bn2.weak (by kernel_rfl))⟩

theorem ev_1 {m y k : Nat} {N : Int} (hf : Fine m) (hv : val m = N * scale) (hN1 : -15 ≤ N) (hN2 : N ≤ -15) (hk1 : 0 ≤ k) (hk2 : k ≤ 65536) (hy : frac k = some y) : ∃ s, fa m y = some s ∧ ∃ t, fm 4618441417868443648 s = some t ∧ Gap t := by
  have bm : Bt 13848005904210853888 m 13848005904210853888 := whole_between hf hv hN1 hN2 (by kernel_rfl)
  obtain ⟨y', hy', by_⟩ := frac_bt 0 65536 0 4602678819172646912 hk1 hk2 (by kernel_rfl)
  have ey : y' = y := Option.some.inj (hy'.symm.trans hy)
  subst ey
  obtain ⟨n1, hn1, bn1⟩ := add_bt 13848005904210853888 13847724429234143232 bm by_ (by kernel_rfl)
  obtain ⟨n2, hn2, bn2⟩ := mul_bt 13859405640767635456 13859194534535102464 (Bt.const (k := 4618441417868443648) (by kernel_rfl)) bn1 (by kernel_rfl)
  exact ⟨n1, hn1, n2, hn2, .inl (bn2.weak (by kernel_rfl))⟩

theorem ev_2 {m y k : Nat} {N : Int} (hf : Fine m) (hv : val m = N * scale) (hN1 : -15 ≤ N) (hN2 : N ≤ -15) (hk1 : 65537 ≤ k) (hk2 : k ≤ 131071) (hy : frac k = some y) : ∃ s, fa m y = some s ∧ ∃ t, fm 4618441417868443648 s = some t ∧ Gap t := by
  have bm : Bt 13848005904210853888 m 13848005904210853888 := whole_between hf hv hN1 hN2 (by kernel_rfl)
  obtain ⟨y', hy', by_⟩ := frac_bt 65537 131071 4602678887892123648 4607182350080540672 hk1 hk2 (by kernel_rfl)
  have ey : y' = y := Option.some.inj (hy'.symm.trans hy)
  subst ey
  obtain ⟨n1, hn1, bn1⟩ := add_bt 13847724424939175936 13847442958552399872 bm by_ (by kernel_rfl)
  obtain ⟨n2, hn2, bn2⟩ := mul_bt 13859194531313876992 13858983431523794944 (Bt.const (k := 4618441417868443648) (by kernel_rfl)) bn1 (by kernel_rfl)
  exact ⟨n1, hn1, n2, hn2, .inr (.inl (bn2.weak (by kernel_rfl)))⟩

theorem ev_3 {m y k : Nat} {N : Int} (hf : Fine m) (hv : val m = N * scale) (hN1 : -14 ≤ N) (hN2 : N ≤ 13) (hk1 : 0 ≤ k) (hk2 : k ≤ 131071) (hy : frac k = some y) : ∃ s, fa m y = some s ∧ ∃ t, fm 4618441417868443648 s = some t ∧ Gap t := by
  have bm : Bt 13847442954257432576 m 4623507967449235456 := whole_between hf hv hN1 hN2 (by kernel_rfl)
  obtain ⟨y', hy', by_⟩ := frac_bt 0 131071 0 4607182350080540672 hk1 hk2 (by kernel_rfl)
  have ey : y' = y := Option.some.inj (hy'.symm.trans hy)
  subst ey
  obtain ⟨n1, hn1, bn1⟩ := add_bt 13847442954257432576 4624070913107689472 bm by_ (by kernel_rfl)
  obtain ⟨n2, hn2, bn2⟩ := mul_bt 13858983428302569472 4635611388226568192 (Bt.const (k := 4618441417868443648) (by kernel_rfl)) bn1 (by kernel_rfl)
  exact ⟨n1, hn1, n2, hn2, .inr (.inl (bn2.weak (by kernel_rfl)))⟩

theorem ev_4 {m y k : Nat} {N : Int} (hf : Fine m) (hv : val m = N * scale) (hN1 : 14 ≤ N) (hN2 : N ≤ 14) (hk1 : 0 ≤ k) (hk2 : k ≤ 65535) (hy : frac k = some y) : ∃ s, fa m y = some s ∧ ∃ t, fm 4618441417868443648 s = some t ∧ Gap t := by
  have bm : Bt 4624070917402656768 m 4624070917402656768 := whole_between hf hv hN1 hN2 (by kernel_rfl)
  obtain ⟨y', hy', by_⟩ := frac_bt 0 65535 0 4602678681733693440 hk1 hk2 (by kernel_rfl)
  have ey : y' = y := Option.some.inj (hy'.symm.trans hy)
  subst ey
  obtain ⟨n1, hn1, bn1⟩ := add_bt 4624070917402656768 4624352388084400128 bm by_ (by kernel_rfl)
  obtain ⟨n2, hn2, bn2⟩ := mul_bt 4635611391447793664 4635822494459101184 (Bt.const (k := 4618441417868443648) (by kernel_rfl)) bn1 (by kernel_rfl)
  exact ⟨n1, hn1, n2, hn2, .inr (.inl (bn2.weak (by kernel_rfl)))⟩

theorem ev_5 {m y k : Nat} {N : Int} (hf : Fine m) (hv : val m = N * scale) (hN1 : 14 ≤ N) (hN2 : N ≤ 14) (hk1 : 65536 ≤ k) (hk2 : k ≤ 131071) (hy : frac k = some y) : ∃ s, fa m y = some s ∧ ∃ t, fm 4618441417868443648 s = some t ∧ Gap t := by
  have bm : Bt 4624070917402656768 m 4624070917402656768 := whole_between hf hv hN1 hN2 (by kernel_rfl)
  obtain ⟨y', hy', by_⟩ := frac_bt 65536 131071 4602678819172646912 4607182350080540672 hk1 hk2 (by kernel_rfl)
  have ey : y' = y := Option.some.inj (hy'.symm.trans hy)
  subst ey
  obtain ⟨n1, hn1, bn1⟩ := add_bt 4624352392379367424 4624633863061110784 bm by_ (by kernel_rfl)
  obtain ⟨n2, hn2, bn2⟩ := mul_bt 4635822497680326656 4636033600691634176 (Bt.const (k := 4618441417868443648) (by kernel_rfl)) bn1 (by kernel_rfl)
  exact ⟨n1, hn1, n2, hn2, .inr (.inr (.inl (bn2.weak (by kernel_rfl))))⟩

theorem ev_6 {m y k : Nat} {N : Int} (hf : Fine m) (hv : val m = N * scale) (hN1 : 15 ≤ N) (hN2 : N ≤ 44) (hk1 : 0 ≤ k) (hk2 : k ≤ 131071) (hy : frac k = some y) : ∃ s, fa m y = some s ∧ ∃ t, fm 4618441417868443648 s = some t ∧ Gap t := by
  have bm : Bt 4624633867356078080 m 4631389266797133824 := whole_between hf hv hN1 hN2 (by kernel_rfl)
  obtain ⟨y', hy', by_⟩ := frac_bt 0 131071 0 4607182350080540672 hk1 hk2 (by kernel_rfl)
  have ey : y' = y := Option.some.inj (hy'.symm.trans hy)
  subst ey
  obtain ⟨n1, hn1, bn1⟩ := add_bt 4624633867356078080 4631530003211747328 bm by_ (by kernel_rfl)
  obtain ⟨n2, hn2, bn2⟩ := mul_bt 4636033603912859648 4643457505618296832 (Bt.const (k := 4618441417868443648) (by kernel_rfl)) bn1 (by kernel_rfl)
  exact ⟨n1, hn1, n2, hn2, .inr (.inr (.inl (bn2.weak (by kernel_rfl))))⟩

theorem ev_7 {m y k : Nat} {N : Int} (hf : Fine m) (hv : val m = N * scale) (hN1 : 45 ≤ N) (hN2 : N ≤ 45) (hk1 : 0 ≤ k) (hk2 : k ≤ 65536) (hy : frac k = some y) : ∃ s, fa m y = some s ∧ ∃ t, fm 4618441417868443648 s = some t ∧ Gap t := by
  have bm : Bt 4631530004285489152 m 4631530004285489152 := whole_between hf hv hN1 hN2 (by kernel_rfl)
  obtain ⟨y', hy', by_⟩ := frac_bt 0 65536 0 4602678819172646912 hk1 hk2 (by kernel_rfl)
  have ey : y' = y := Option.some.inj (hy'.symm.trans hy)
  subst ey
  obtain ⟨n1, hn1, bn1⟩ := add_bt 4631530004285489152 4631600373029666816 bm by_ (by kernel_rfl)
  obtain ⟨n2, hn2, bn2⟩ := mul_bt 4643457506423603200 4643510282981736448 (Bt.const (k := 4618441417868443648) (by kernel_rfl)) bn1 (by kernel_rfl)
  exact ⟨n1, hn1, n2, hn2, .inr (.inr (.inl (bn2.weak (by kernel_rfl))))⟩

theorem ev_8 {m y k : Nat} {N : Int} (hf : Fine m) (hv : val m = N * scale) (hN1 : 45 ≤ N) (hN2 : N ≤ 45) (hk1 : 65537 ≤ k) (hk2 : k ≤ 131071) (hy : frac k = some y) : ∃ s, fa m y = some s ∧ ∃ t, fm 4618441417868443648 s = some t ∧ Gap t := by
  have bm : Bt 4631530004285489152 m 4631530004285489152 := whole_between hf hv hN1 hN2 (by kernel_rfl)
  obtain ⟨y', hy', by_⟩ := frac_bt 65537 131071 4602678887892123648 4607182350080540672 hk1 hk2 (by kernel_rfl)
  have ey : y' = y := Option.some.inj (hy'.symm.trans hy)
  subst ey
  obtain ⟨n1, hn1, bn1⟩ := add_bt 4631600374103408640 4631670740700102656 bm by_ (by kernel_rfl)
  obtain ⟨n2, hn2, bn2⟩ := mul_bt 4643510283787042816 4643563058734563328 (Bt.const (k := 4618441417868443648) (by kernel_rfl)) bn1 (by kernel_rfl)
  exact ⟨n1, hn1, n2, hn2, .inr (.inr (.inr (bn2.weak (by kernel_rfl))))⟩

theorem ev_9 {m y k : Nat} {N : Int} (hf : Fine m) (hv : val m = N * scale) (hN1 : 46 ≤ N) (hN2 : N ≤ 60) (hk1 : 0 ≤ k) (hk2 : k ≤ 131071) (hy : frac k = some y) : ∃ s, fa m y = some s ∧ ∃ t, fm 4618441417868443648 s = some t ∧ Gap t := by
  have bm : Bt 4631670741773844480 m 4633641066610819072 := whole_between hf hv hN1 hN2 (by kernel_rfl)
  obtain ⟨y', hy', by_⟩ := frac_bt 0 131071 0 4607182350080540672 hk1 hk2 (by kernel_rfl)
  have ey : y' = y := Option.some.inj (hy'.symm.trans hy)
  subst ey
  obtain ⟨n1, hn1, bn1⟩ := add_bt 4631670741773844480 4633781803025432576 bm by_ (by kernel_rfl)
  obtain ⟨n2, hn2, bn2⟩ := mul_bt 4643563059539869696 4645146355478560768 (Bt.const (k := 4618441417868443648) (by kernel_rfl)) bn1 (by kernel_rfl)
  exact ⟨n1, hn1, n2, hn2, .inr (.inr (.inr (bn2.weak (by kernel_rfl))))⟩

theorem ev_gap {m y k : Nat} {N : Int} (hf : Fine m) (hv : val m = N * scale) (hN1 : -20 ≤ N) (hN2 : N ≤ 60) (hk : k ≤ 131071) (hy : frac k = some y) : ∃ s, fa m y = some s ∧ ∃ t, fm 4618441417868443648 s = some t ∧ Gap t := by

  by_cases c0 : N ≤ -16
  · exact ev_0 hf hv (by omega) (by omega) (by omega) (by omega) hy
  by_cases c1 : N ≤ -15 ∧ k ≤ 65536
  · exact ev_1 hf hv (by omega) (by omega) (by omega) (by omega) hy
  by_cases c2 : N ≤ -15
  · exact ev_2 hf hv (by omega) (by omega) (by omega) (by omega) hy
  by_cases c3 : N ≤ 13
  · exact ev_3 hf hv (by omega) (by omega) (by omega) (by omega) hy
  by_cases c4 : N ≤ 14 ∧ k ≤ 65535
  · exact ev_4 hf hv (by omega) (by omega) (by omega) (by omega) hy
  by_cases c5 : N ≤ 14
  · exact ev_5 hf hv (by omega) (by omega) (by omega) (by omega) hy
  by_cases c6 : N ≤ 44
  · exact ev_6 hf hv (by omega) (by omega) (by omega) (by omega) hy
  by_cases c7 : N ≤ 45 ∧ k ≤ 65536
  · exact ev_7 hf hv (by omega) (by omega) (by omega) (by omega) hy
  by_cases c8 : N ≤ 45
  · exact ev_8 hf hv (by omega) (by omega) (by omega) (by omega) hy
  exact ev_9 hf hv (by omega) (by omega) (by omega) (by omega) hy

theorem od_0 {m y k : Nat} {N : Int} (hf : Fine m) (hv : val m = N * scale) (hN1 : -20 ≤ N) (hN2 : N ≤ -16) (hk1 : 0 ≤ k) (hk2 : k ≤ 131071) (hy : frac k = some y) : ∃ s, fa m y = some s ∧ ∃ t, fm 4618555916164054762 s = some t ∧ Gap t := by
  have bm : Bt 13849694754071117824 m 13848568854164275200 := whole_between hf hv hN1 hN2 (by kernel_rfl)
  obtain ⟨y', hy', by_⟩ := frac_bt 0 131071 0 4607182350080540672 hk1 hk2 (by kernel_rfl)
  have ey : y' = y := Option.some.inj (hy'.symm.trans hy)
  subst ey
  obtain ⟨n1, hn1, bn1⟩ := add_bt 13849694754071117824 13848005908505821184 bm by_ (by kernel_rfl)
  obtain ⟨n2, hn2, bn2⟩ := mul_bt 13861659825962479269 13859512986195593389 (Bt.const (k := 4618555916164054762) (by kernel_rfl)) bn1 (by kernel_rfl)
  exact ⟨n1, hn1, n2, hn2, .inl (bn2.weak (by kernel_rfl))⟩

theorem od_1 {m y k : Nat} {N : Int} (hf : Fine m) (hv : val m = N * scale) (hN1 : -15 ≤ N) (hN2 : N ≤ -15) (hk1 : 0 ≤ k) (hk2 : k ≤ 97211) (hy : frac k = some y) : ∃ s, fa m y = some s ∧ ∃ t, fm 4618555916164054762 s = some t ∧ Gap t := by
  have bm : Bt 13848005904210853888 m 13848005904210853888 := whole_between hf hv hN1 hN2 (by kernel_rfl)
  obtain ⟨y', hy', by_⟩ := frac_bt 0 97211 0 4604855508598259712 hk1 hk2 (by kernel_rfl)
  have ey : y' = y := Option.some.inj (hy'.symm.trans hy)
  subst ey
  obtain ⟨n1, hn1, bn1⟩ := add_bt 13848005904210853888 13847588386145042432 bm by_ (by kernel_rfl)
  obtain ⟨n2, hn2, bn2⟩ := mul_bt 13859512982919770876 13859194536937372307 (Bt.const (k := 4618555916164054762) (by kernel_rfl)) bn1 (by kernel_rfl)
  exact ⟨n1, hn1, n2, hn2, .inl (bn2.weak (by kernel_rfl))⟩

theorem od_2 {m y k : Nat} {N : Int} (hf : Fine m) (hv : val m = N * scale) (hN1 : -15 ≤ N) (hN2 : N ≤ -15) (hk1 : 97212 ≤ k) (hk2 : k ≤ 131071) (hy : frac k = some y) : ∃ s, fa m y = some s ∧ ∃ t, fm 4618555916164054762 s = some t ∧ Gap t := by
  have bm : Bt 13848005904210853888 m 13848005904210853888 := whole_between hf hv hN1 hN2 (by kernel_rfl)
  obtain ⟨y', hy', by_⟩ := frac_bt 97212 131071 4604855577317736448 4607182350080540672 hk1 hk2 (by kernel_rfl)
  have ey : y' = y := Option.some.inj (hy'.symm.trans hy)
  subst ey
  obtain ⟨n1, hn1, bn1⟩ := add_bt 13847588381850075136 13847442958552399872 bm by_ (by kernel_rfl)
  obtain ⟨n2, hn2, bn2⟩ := mul_bt 13859194533661549794 13859083617587051710 (Bt.const (k := 4618555916164054762) (by kernel_rfl)) bn1 (by kernel_rfl)
  exact ⟨n1, hn1, n2, hn2, .inr (.inl (bn2.weak (by kernel_rfl)))⟩

theorem od_3 {m y k : Nat} {N : Int} (hf : Fine m) (hv : val m = N * scale) (hN1 : -14 ≤ N) (hN2 : N ≤ 13) (hk1 : 0 ≤ k) (hk2 : k ≤ 131071) (hy : frac k = some y) : ∃ s, fa m y = some s ∧ ∃ t, fm 4618555916164054762 s = some t ∧ Gap t := by
  have bm : Bt 13847442954257432576 m 4623507967449235456 := whole_between hf hv hN1 hN2 (by kernel_rfl)
  obtain ⟨y', hy', by_⟩ := frac_bt 0 131071 0 4607182350080540672 hk1 hk2 (by kernel_rfl)
  have ey : y' = y := Option.some.inj (hy'.symm.trans hy)
  subst ey
  obtain ⟨n1, hn1, bn1⟩ := add_bt 13847442954257432576 4624070913107689472 bm by_ (by kernel_rfl)
  obtain ⟨n2, hn2, bn2⟩ := mul_bt 13859083614311229197 4635711574180630875 (Bt.const (k := 4618555916164054762) (by kernel_rfl)) bn1 (by kernel_rfl)
  exact ⟨n1, hn1, n2, hn2, .inr (.inl (bn2.weak (by kernel_rfl)))⟩

theorem od_4 {m y k : Nat} {N : Int} (hf : Fine m) (hv : val m = N * scale) (hN1 : 14 ≤ N) (hN2 : N ≤ 14) (hk1 : 0 ≤ k) (hk2 : k ≤ 33860) (hy : frac k = some y) : ∃ s, fa m y = some s ∧ ∃ t, fm 4618555916164054762 s = some t ∧ Gap t := by
  have bm : Bt 4624070917402656768 m 4624070917402656768 := whole_between hf hv hN1 hN2 (by kernel_rfl)
  obtain ⟨y', hy', by_⟩ := frac_bt 0 33860 0 4598325302882467840 hk1 hk2 (by kernel_rfl)
  have ey : y' = y := Option.some.inj (hy'.symm.trans hy)
  subst ey
  obtain ⟨n1, hn1, bn1⟩ := add_bt 4624070917402656768 4624216344995299328 bm by_ (by kernel_rfl)
  obtain ⟨n2, hn2, bn2⟩ := mul_bt 4635711577456453388 4635822496806773986 (Bt.const (k := 4618555916164054762) (by kernel_rfl)) bn1 (by kernel_rfl)
  exact ⟨n1, hn1, n2, hn2, .inr (.inl (bn2.weak (by kernel_rfl)))⟩

theorem od_5 {m y k : Nat} {N : Int} (hf : Fine m) (hv : val m = N * scale) (hN1 : 14 ≤ N) (hN2 : N ≤ 14) (hk1 : 33861 ≤ k) (hk2 : k ≤ 131071) (hy : frac k = some y) : ∃ s, fa m y = some s ∧ ∃ t, fm 4618555916164054762 s = some t ∧ Gap t := by
  have bm : Bt 4624070917402656768 m 4624070917402656768 := whole_between hf hv hN1 hN2 (by kernel_rfl)
  obtain ⟨y', hy', by_⟩ := frac_bt 33861 131071 4598325440321421312 4607182350080540672 hk1 hk2 (by kernel_rfl)
  have ey : y' = y := Option.some.inj (hy'.symm.trans hy)
  subst ey
  obtain ⟨n1, hn1, bn1⟩ := add_bt 4624216349290266624 4624633863061110784 bm by_ (by kernel_rfl)
  obtain ⟨n2, hn2, bn2⟩ := mul_bt 4635822500082596499 4636140942789172554 (Bt.const (k := 4618555916164054762) (by kernel_rfl)) bn1 (by kernel_rfl)
  exact ⟨n1, hn1, n2, hn2, .inr (.inr (.inl (bn2.weak (by kernel_rfl))))⟩

theorem od_6 {m y k : Nat} {N : Int} (hf : Fine m) (hv : val m = N * scale) (hN1 : 15 ≤ N) (hN2 : N ≤ 43) (hk1 : 0 ≤ k) (hk2 : k ≤ 131071) (hy : frac k = some y) : ∃ s, fa m y = some s ∧ ∃ t, fm 4618555916164054762 s = some t ∧ Gap t := by
  have bm : Bt 4624633867356078080 m 4631248529308778496 := whole_between hf hv hN1 hN2 (by kernel_rfl)
  obtain ⟨y', hy', by_⟩ := frac_bt 0 131071 0 4607182350080540672 hk1 hk2 (by kernel_rfl)
  have ey : y' = y := Option.some.inj (hy'.symm.trans hy)
  subst ey
  obtain ⟨n1, hn1, bn1⟩ := add_bt 4624633867356078080 4631389265723392000 bm by_ (by kernel_rfl)
  obtain ⟨n2, hn2, bn2⟩ := mul_bt 4636140946064995067 4643430670066613717 (Bt.const (k := 4618555916164054762) (by kernel_rfl)) bn1 (by kernel_rfl)
  exact ⟨n1, hn1, n2, hn2, .inr (.inr (.inl (bn2.weak (by kernel_rfl))))⟩

theorem od_7 {m y k : Nat} {N : Int} (hf : Fine m) (hv : val m = N * scale) (hN1 : 44 ≤ N) (hN2 : N ≤ 44) (hk1 : 0 ≤ k) (hk2 : k ≤ 97211) (hy : frac k = some y) : ∃ s, fa m y = some s ∧ ∃ t, fm 4618555916164054762 s = some t ∧ Gap t := by
  have bm : Bt 4631389266797133824 m 4631389266797133824 := whole_between hf hv hN1 hN2 (by kernel_rfl)
  obtain ⟨y', hy', by_⟩ := frac_bt 0 97211 0 4604855508598259712 hk1 hk2 (by kernel_rfl)
  have ey : y' = y := Option.some.inj (hy'.symm.trans hy)
  subst ey
  obtain ⟨n1, hn1, bn1⟩ := add_bt 4631389266797133824 4631493646313586688 bm by_ (by kernel_rfl)
  obtain ⟨n2, hn2, bn2⟩ := mul_bt 4643430670885569344 4643510282381168987 (Bt.const (k := 4618555916164054762) (by kernel_rfl)) bn1 (by kernel_rfl)
  exact ⟨n1, hn1, n2, hn2, .inr (.inr (.inl (bn2.weak (by kernel_rfl))))⟩

theorem od_8 {m y k : Nat} {N : Int} (hf : Fine m) (hv : val m = N * scale) (hN1 : 44 ≤ N) (hN2 : N ≤ 44) (hk1 : 97212 ≤ k) (hk2 : k ≤ 131071) (hy : frac k = some y) : ∃ s, fa m y = some s ∧ ∃ t, fm 4618555916164054762 s = some t ∧ Gap t := by
  have bm : Bt 4631389266797133824 m 4631389266797133824 := whole_between hf hv hN1 hN2 (by kernel_rfl)
  obtain ⟨y', hy', by_⟩ := frac_bt 97212 131071 4604855577317736448 4607182350080540672 hk1 hk2 (by kernel_rfl)
  have ey : y' = y := Option.some.inj (hy'.symm.trans hy)
  subst ey
  obtain ⟨n1, hn1, bn1⟩ := add_bt 4631493647387328512 4631530003211747328 bm by_ (by kernel_rfl)
  obtain ⟨n2, hn2, bn2⟩ := mul_bt 4643510283200124615 4643538012218749137 (Bt.const (k := 4618555916164054762) (by kernel_rfl)) bn1 (by kernel_rfl)
  exact ⟨n1, hn1, n2, hn2, .inr (.inr (.inr (bn2.weak (by kernel_rfl))))⟩

theorem od_9 {m y k : Nat} {N : Int} (hf : Fine m) (hv : val m = N * scale) (hN1 : 45 ≤ N) (hN2 : N ≤ 60) (hk1 : 0 ≤ k) (hk2 : k ≤ 131071) (hy : frac k = some y) : ∃ s, fa m y = some s ∧ ∃ t, fm 4618555916164054762 s = some t ∧ Gap t := by
  have bm : Bt 4631530004285489152 m 4633641066610819072 := whole_between hf hv hN1 hN2 (by kernel_rfl)
  obtain ⟨y', hy', by_⟩ := frac_bt 0 131071 0 4607182350080540672 hk1 hk2 (by kernel_rfl)
  have ey : y' = y := Option.some.inj (hy'.symm.trans hy)
  subst ey
  obtain ⟨n1, hn1, bn1⟩ := add_bt 4631530004285489152 4633781803025432576 bm by_ (by kernel_rfl)
  obtain ⟨n2, hn2, bn2⟩ := mul_bt 4643538013037704764 4645255486652915851 (Bt.const (k := 4618555916164054762) (by kernel_rfl)) bn1 (by kernel_rfl)
  exact ⟨n1, hn1, n2, hn2, .inr (.inr (.inr (bn2.weak (by kernel_rfl))))⟩

theorem od_gap {m y k : Nat} {N : Int} (hf : Fine m) (hv : val m = N * scale) (hN1 : -20 ≤ N) (hN2 : N ≤ 60) (hk : k ≤ 131071) (hy : frac k = some y) : ∃ s, fa m y = some s ∧ ∃ t, fm 4618555916164054762 s = some t ∧ Gap t := by

  by_cases c0 : N ≤ -16
  · exact od_0 hf hv (by omega) (by omega) (by omega) (by omega) hy
  by_cases c1 : N ≤ -15 ∧ k ≤ 97211
  · exact od_1 hf hv (by omega) (by omega) (by omega) (by omega) hy
  by_cases c2 : N ≤ -15
  · exact od_2 hf hv (by omega) (by omega) (by omega) (by omega) hy
  by_cases c3 : N ≤ 13
  · exact od_3 hf hv (by omega) (by omega) (by omega) (by omega) hy
  by_cases c4 : N ≤ 14 ∧ k ≤ 33860
  · exact od_4 hf hv (by omega) (by omega) (by omega) (by omega) hy
  by_cases c5 : N ≤ 14
  · exact od_5 hf hv (by omega) (by omega) (by omega) (by omega) hy
  by_cases c6 : N ≤ 43
  · exact od_6 hf hv (by omega) (by omega) (by omega) (by omega) hy
  by_cases c7 : N ≤ 44 ∧ k ≤ 97211
  · exact od_7 hf hv (by omega) (by omega) (by omega) (by omega) hy
  by_cases c8 : N ≤ 44
  · exact od_8 hf hv (by omega) (by omega) (by omega) (by omega) hy
  exact od_9 hf hv (by omega) (by omega) (by omega) (by omega) hy


theorem gap_nl {t : Nat} (h : Gap t) : Fine t ∧ (val (absW t) ≤ val 4635822496976639214 ∨ val 4635822497680326656 ≤ val (absW t)) := by
  have v0 : val 0 = 0 := by decide
  have vL : val 13859194533831415022 = -val 4635822496976639214 := of_decide_eq_true (by kernel_rfl)
  have v87 : val 13859194534535102464 = -val 4635822497680326656 := of_decide_eq_true (by kernel_rfl)
  have p87 : 0 < val 4635822497680326656 := of_decide_eq_true (by kernel_rfl)
  have p273 : val 4635822497680326656 ≤ val 4643510283175250494 := of_decide_eq_true (by kernel_rfl)
  rw [absW_abs]
  rcases h with b | b | b | b
  · refine ⟨b.fine, .inr ?_⟩
    have := b.hi
    rw [if_pos (by omega)]; omega
  · refine ⟨b.fine, .inl ?_⟩
    have := b.lo; have := b.hi
    split <;> omega
  · refine ⟨b.fine, .inr ?_⟩
    have := b.lo
    rw [if_neg (by omega)]; omega
  · refine ⟨b.fine, .inr ?_⟩
    have := b.lo
    rw [if_neg (by omega)]; omega

/-- The turn at 270: where the latitude lies behind it. -/
theorem gap_wrap {t : Nat} (h : Gap t) (h0 : 0 ≤ val t) : ∃ r, (if fgeB t 4643457506423603200 then fs t 4645040803167600640 else some t) = some r ∧ Gap r ∧ Bt 13859405640767635456 r 4643475098609647616 := by
  have hf : Fine t := (gap_nl h).1
  have f270 : Fine 4643457506423603200 := fine_of (by kernel_rfl)
  rw [fgeB_fine hf f270]
  by_cases hc : val 4643457506423603200 ≤ val t
  · rw [if_pos (decide_eq_true hc)]
    have n87 : val 13859194534535102464 < 0 := of_decide_eq_true (by kernel_rfl)
    have nL : val 4635822496976639214 < val 4643457506423603200 := of_decide_eq_true (by kernel_rfl)
    rcases h with b | b | b | b
    · exfalso; have := b.hi; omega
    · exfalso; have := b.hi; omega
    · obtain ⟨r, hr, br⟩ := sub_bt 13859405640767635456 13859194534535102464 (x := t) ⟨hf, hc, b.hi⟩ (Bt.const (k := 4645040803167600640) (by kernel_rfl)) (by kernel_rfl)
      exact ⟨r, hr, .inl (br.weak (by kernel_rfl)), br.weak (by kernel_rfl)⟩
    · obtain ⟨r, hr, br⟩ := sub_bt 13859194533761046280 4623507967449235456 b (Bt.const (k := 4645040803167600640) (by kernel_rfl)) (by kernel_rfl)
      exact ⟨r, hr, .inr (.inl (br.weak (by kernel_rfl))), br.weak (by kernel_rfl)⟩
  · rw [if_neg (by simpa using hc)]
    refine ⟨t, rfl, h, hf, ?_, ?_⟩
    · have : val 13859405640767635456 < 0 := of_decide_eq_true (by kernel_rfl)
      omega
    · have : val 4643457506423603200 < val 4643475098609647616 := of_decide_eq_true (by kernel_rfl)
      omega

end Go.Proofs.YbulkcyuwDoor
