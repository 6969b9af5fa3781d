/-
  LocalAirborne (7).
-/
import Derived.Test.YbulkcyuwDoorGwalk
namespace Go.Proofs.YbulkcyuwDoor
open Go.RowKit

theorem Grew.trig {S : Nat → Prop} {x y : World} (h : Grew S x y) (hT : Trig x) (hS : ∀ k, S k → 5 < k := by exact fun _ h => h.elim) : Trig y := by
  have hn : ∀ k, k ≤ 5 → ¬ S k := fun k hk hs => by have := hS k hs; omega
  exact ⟨fun j hj => h.cell (hn 4 (by omega)) (hT.1 j hj), fun j hj => h.cell (hn 5 (by omega)) (hT.2 j hj)⟩

set_option maxHeartbeats 2000000 in
set_option maxRecDepth 100000 in
theorem local_true (lat lon rLat rLon la lo : Nat) (ok : Bool) (h : localF true lat lon rLat rLon = some (la, lo, ok)) (w : World) (hT : Tabs w) :
    Calls Ybad.prog 7 #[cprV true lat lon, .float .f64 rLat, .float .f64 rLon] w fun e w' => e = .returned (.tuple #[.float .f64 la, .float .f64 lo, .bool ok]) ∧ Grew (fun _ => False) w w' := by
  unfold cprV
  have HT := hide hT.1
  clear hT
  unfold localF at h
  simp only [Option.bind_eq_some_iff] at h
  obtain ⟨yz, hyz, xz, hxz, z, hz, q, hq, n, hn, s, hs, la1, hla, h⟩ := h
  unfold frac at hyz hxz
  replace hyz := run_op hyz
  replace hxz := run_op hxz
  replace hq := run_op hq
  replace hs := run_op hs
  replace hla := run_op hla
  by_cases hff : fineB la1 = true
  case neg => rw [if_neg hff] at h; cases h
  rw [if_pos hff] at h
  have fL := fine_of hff
  simp only [if_true] at hz h
  have hz : fq 4645040803167600640 (floatOfInt .f64 59) = some z := hz
  replace hz := run_op hz
  go_enter Ybad.func7, Ybad.ntmps7
  by_cases c1 : fgtB (absW la1) 4636033603912859648 = true
  case pos =>
    rw [if_pos c1] at h
    cases h
    have k1 : (FloatKind.f64.format.order (absW la1) 4636033603912859648 == some .gt) = true := c1
    clear c1
    go_wp2_with fail
    go_quiet (fail)
    go_wp2_with fail
    refine (nearestZone_any q yz n hn _).mono ?_
    rintro e w1 ⟨rfl, rfl⟩
    go_wp2_with fail
    refine (abs_any la1 fL.1 _).mono ?_
    rintro e w1 ⟨rfl, rfl⟩
    go_wp2_with fail
    go_ret3
    exact ⟨rfl, Grew.drewN (Grew.alloc (Grew.refl _ _) _) _⟩
  rw [if_neg c1] at h
  have k1 : (FloatKind.f64.format.order (absW la1) 4636033603912859648 == some .gt) = false := Bool.eq_false_iff.2 c1
  clear c1
  simp only [Option.bind_eq_some_iff] at h
  obtain ⟨nl, hnl, h⟩ := h
  by_cases hnk : nlOk nl = true
  case neg => rw [if_neg hnk] at h; cases h
  rw [if_pos hnk] at h
  unfold nlOk at hnk
  simp only [Bool.and_eq_true, decide_eq_true_eq] at hnk
  obtain ⟨hn0, hn1⟩ := hnk
  have d1 : wrap64 (nl - 1) = nl - 1 := by unfold wrap64; omega
  have d0 : wrap64 (nl - 0) = nl := by unfold wrap64; omega
  have d2 : wrap64 nl = nl := by unfold wrap64; omega
  clear hn0 hn1
  simp only [Option.bind_eq_some_iff] at h
  obtain ⟨lz, hlz, q2, hq2, m, hm, s2, hs2, lo1, hlo1, h⟩ := h
  replace hq2 := run_op hq2
  replace hs2 := run_op hs2
  replace hlo1 := run_op hlo1
  unfold localB at h
  by_cases hz1 : 1 ≤ nl - 1
  case pos =>
    have em : max (nl - 1) 1 = nl - 1 := by omega
    rw [em] at hlz
    clear em
    replace hlz := run_op hlz
    by_cases c2 : (FloatKind.f64.format.order lo1 4640537203540230144 == some .gt || FloatKind.f64.format.order lo1 4640537203540230144 == some .eq) = true
    case pos =>
      rw [if_pos c2] at h
      simp only [Option.bind_eq_some_iff] at h
      obtain ⟨r, hr, h⟩ := h
      replace hr := run_op hr
      simp only [Option.some.injEq, Prod.mk.injEq] at h
      obtain ⟨e1, e2, e3⟩ := h
      subst e1
      subst e2
      subst e3
      go_wp2_with fail
      go_quiet (fail)
      go_wp2_with fail
      refine (nearestZone_any q yz n hn _).mono ?_
      rintro e w1 ⟨rfl, rfl⟩
      go_wp2_with fail
      refine (abs_any la1 fL.1 _).mono ?_
      rintro e w1 ⟨rfl, rfl⟩
      go_wp2_with fail
      refine (nl_walk la1 nl fL hnl _ ((Grew.alloc (Grew.refl (fun _ => False) w) _).drewN _ |>.trig (unhide HT))).mono ?_
      rintro e w1 ⟨rfl, rfl⟩
      go_wp2_with fail
      refine (nearestZone_any q2 xz m hm _).mono ?_
      rintro e w1 ⟨rfl, rfl⟩
      go_wp2_with fail
      go_ret3
      exact ⟨rfl, Grew.drewN (Grew.alloc (Grew.refl _ _) _) _⟩
    rw [if_neg c2] at h
    have k2 := Bool.eq_false_iff.2 c2
    clear c2
    by_cases c3 : (FloatKind.f64.format.order lo1 13863909240395005952 == some .lt) = true
    case pos =>
      rw [if_pos c3] at h
      simp only [Option.bind_eq_some_iff] at h
      obtain ⟨r, hr, h⟩ := h
      replace hr := run_op hr
      simp only [Option.some.injEq, Prod.mk.injEq] at h
      obtain ⟨e1, e2, e3⟩ := h
      subst e1
      subst e2
      subst e3
      go_wp2_with fail
      go_quiet (fail)
      go_wp2_with fail
      refine (nearestZone_any q yz n hn _).mono ?_
      rintro e w1 ⟨rfl, rfl⟩
      go_wp2_with fail
      refine (abs_any la1 fL.1 _).mono ?_
      rintro e w1 ⟨rfl, rfl⟩
      go_wp2_with fail
      refine (nl_walk la1 nl fL hnl _ ((Grew.alloc (Grew.refl (fun _ => False) w) _).drewN _ |>.trig (unhide HT))).mono ?_
      rintro e w1 ⟨rfl, rfl⟩
      go_wp2_with fail
      refine (nearestZone_any q2 xz m hm _).mono ?_
      rintro e w1 ⟨rfl, rfl⟩
      go_wp2_with fail
      go_ret3
      exact ⟨rfl, Grew.drewN (Grew.alloc (Grew.refl _ _) _) _⟩
    case neg =>
      rw [if_neg c3] at h
      have k3 := Bool.eq_false_iff.2 c3
      clear c3
      simp only [Option.some.injEq, Prod.mk.injEq] at h
      obtain ⟨e1, e2, e3⟩ := h
      subst e1
      subst e2
      subst e3
      go_wp2_with fail
      go_quiet (fail)
      go_wp2_with fail
      refine (nearestZone_any q yz n hn _).mono ?_
      rintro e w1 ⟨rfl, rfl⟩
      go_wp2_with fail
      refine (abs_any la1 fL.1 _).mono ?_
      rintro e w1 ⟨rfl, rfl⟩
      go_wp2_with fail
      refine (nl_walk la1 nl fL hnl _ ((Grew.alloc (Grew.refl (fun _ => False) w) _).drewN _ |>.trig (unhide HT))).mono ?_
      rintro e w1 ⟨rfl, rfl⟩
      go_wp2_with fail
      refine (nearestZone_any q2 xz m hm _).mono ?_
      rintro e w1 ⟨rfl, rfl⟩
      go_wp2_with fail
      go_ret3
      exact ⟨rfl, Grew.drewN (Grew.alloc (Grew.refl _ _) _) _⟩
  case neg =>
    have em : max (nl - 1) 1 = 1 := by omega
    rw [em] at hlz
    clear em
    replace hlz := run_op hlz
    by_cases c2 : (FloatKind.f64.format.order lo1 4640537203540230144 == some .gt || FloatKind.f64.format.order lo1 4640537203540230144 == some .eq) = true
    case pos =>
      rw [if_pos c2] at h
      simp only [Option.bind_eq_some_iff] at h
      obtain ⟨r, hr, h⟩ := h
      replace hr := run_op hr
      simp only [Option.some.injEq, Prod.mk.injEq] at h
      obtain ⟨e1, e2, e3⟩ := h
      subst e1
      subst e2
      subst e3
      go_wp2_with fail
      go_quiet (fail)
      go_wp2_with fail
      refine (nearestZone_any q yz n hn _).mono ?_
      rintro e w1 ⟨rfl, rfl⟩
      go_wp2_with fail
      refine (abs_any la1 fL.1 _).mono ?_
      rintro e w1 ⟨rfl, rfl⟩
      go_wp2_with fail
      refine (nl_walk la1 nl fL hnl _ ((Grew.alloc (Grew.refl (fun _ => False) w) _).drewN _ |>.trig (unhide HT))).mono ?_
      rintro e w1 ⟨rfl, rfl⟩
      go_wp2_with fail
      refine (nearestZone_any q2 xz m hm _).mono ?_
      rintro e w1 ⟨rfl, rfl⟩
      go_wp2_with fail
      go_ret3
      exact ⟨rfl, Grew.drewN (Grew.alloc (Grew.refl _ _) _) _⟩
    rw [if_neg c2] at h
    have k2 := Bool.eq_false_iff.2 c2
    clear c2
    by_cases c3 : (FloatKind.f64.format.order lo1 13863909240395005952 == some .lt) = true
    case pos =>
      rw [if_pos c3] at h
      simp only [Option.bind_eq_some_iff] at h
      obtain ⟨r, hr, h⟩ := h
      replace hr := run_op hr
      simp only [Option.some.injEq, Prod.mk.injEq] at h
      obtain ⟨e1, e2, e3⟩ := h
      subst e1
      subst e2
      subst e3
      go_wp2_with fail
      go_quiet (fail)
      go_wp2_with fail
      refine (nearestZone_any q yz n hn _).mono ?_
      rintro e w1 ⟨rfl, rfl⟩
      go_wp2_with fail
      refine (abs_any la1 fL.1 _).mono ?_
      rintro e w1 ⟨rfl, rfl⟩
      go_wp2_with fail
      refine (nl_walk la1 nl fL hnl _ ((Grew.alloc (Grew.refl (fun _ => False) w) _).drewN _ |>.trig (unhide HT))).mono ?_
      rintro e w1 ⟨rfl, rfl⟩
      go_wp2_with fail
      refine (nearestZone_any q2 xz m hm _).mono ?_
      rintro e w1 ⟨rfl, rfl⟩
      go_wp2_with fail
      go_ret3
      exact ⟨rfl, Grew.drewN (Grew.alloc (Grew.refl _ _) _) _⟩
    case neg =>
      rw [if_neg c3] at h
      have k3 := Bool.eq_false_iff.2 c3
      clear c3
      simp only [Option.some.injEq, Prod.mk.injEq] at h
      obtain ⟨e1, e2, e3⟩ := h
      subst e1
      subst e2
      subst e3
      go_wp2_with fail
      go_quiet (fail)
      go_wp2_with fail
      refine (nearestZone_any q yz n hn _).mono ?_
      rintro e w1 ⟨rfl, rfl⟩
      go_wp2_with fail
      refine (abs_any la1 fL.1 _).mono ?_
      rintro e w1 ⟨rfl, rfl⟩
      go_wp2_with fail
      refine (nl_walk la1 nl fL hnl _ ((Grew.alloc (Grew.refl (fun _ => False) w) _).drewN _ |>.trig (unhide HT))).mono ?_
      rintro e w1 ⟨rfl, rfl⟩
      go_wp2_with fail
      refine (nearestZone_any q2 xz m hm _).mono ?_
      rintro e w1 ⟨rfl, rfl⟩
      go_wp2_with fail
      go_ret3
      exact ⟨rfl, Grew.drewN (Grew.alloc (Grew.refl _ _) _) _⟩

set_option maxHeartbeats 2000000 in
set_option maxRecDepth 100000 in
theorem local_false (lat lon rLat rLon la lo : Nat) (ok : Bool) (h : localF false lat lon rLat rLon = some (la, lo, ok)) (w : World) (hT : Tabs w) :
    Calls Ybad.prog 7 #[cprV false lat lon, .float .f64 rLat, .float .f64 rLon] w fun e w' => e = .returned (.tuple #[.float .f64 la, .float .f64 lo, .bool ok]) ∧ Grew (fun _ => False) w w' := by
  unfold cprV
  have HT := hide hT.1
  clear hT
  unfold localF at h
  simp only [Option.bind_eq_some_iff] at h
  obtain ⟨yz, hyz, xz, hxz, z, hz, q, hq, n, hn, s, hs, la1, hla, h⟩ := h
  unfold frac at hyz hxz
  replace hyz := run_op hyz
  replace hxz := run_op hxz
  replace hq := run_op hq
  replace hs := run_op hs
  replace hla := run_op hla
  by_cases hff : fineB la1 = true
  case neg => rw [if_neg hff] at h; cases h
  rw [if_pos hff] at h
  have fL := fine_of hff
  simp only [Bool.false_eq_true, if_false, Int.sub_zero] at hz h
  replace hz := run_op hz
  go_enter Ybad.func7, Ybad.ntmps7
  by_cases c1 : fgtB (absW la1) 4636033603912859648 = true
  case pos =>
    rw [if_pos c1] at h
    cases h
    have k1 : (FloatKind.f64.format.order (absW la1) 4636033603912859648 == some .gt) = true := c1
    clear c1
    go_wp2_with fail
    go_quiet (fail)
    go_wp2_with fail
    refine (nearestZone_any q yz n hn _).mono ?_
    rintro e w1 ⟨rfl, rfl⟩
    go_wp2_with fail
    refine (abs_any la1 fL.1 _).mono ?_
    rintro e w1 ⟨rfl, rfl⟩
    go_wp2_with fail
    go_ret3
    exact ⟨rfl, Grew.drewN (Grew.alloc (Grew.refl _ _) _) _⟩
  rw [if_neg c1] at h
  have k1 : (FloatKind.f64.format.order (absW la1) 4636033603912859648 == some .gt) = false := Bool.eq_false_iff.2 c1
  clear c1
  simp only [Option.bind_eq_some_iff] at h
  obtain ⟨nl, hnl, h⟩ := h
  by_cases hnk : nlOk nl = true
  case neg => rw [if_neg hnk] at h; cases h
  rw [if_pos hnk] at h
  unfold nlOk at hnk
  simp only [Bool.and_eq_true, decide_eq_true_eq] at hnk
  obtain ⟨hn0, hn1⟩ := hnk
  have d1 : wrap64 (nl - 1) = nl - 1 := by unfold wrap64; omega
  have d0 : wrap64 (nl - 0) = nl := by unfold wrap64; omega
  have d2 : wrap64 nl = nl := by unfold wrap64; omega
  clear hn0 hn1
  simp only [Option.bind_eq_some_iff] at h
  obtain ⟨lz, hlz, q2, hq2, m, hm, s2, hs2, lo1, hlo1, h⟩ := h
  replace hq2 := run_op hq2
  replace hs2 := run_op hs2
  replace hlo1 := run_op hlo1
  unfold localB at h
  by_cases hz1 : 1 ≤ nl
  case pos =>
    have em : max (nl) 1 = nl := by omega
    rw [em] at hlz
    clear em
    replace hlz := run_op hlz
    by_cases c2 : (FloatKind.f64.format.order lo1 4640537203540230144 == some .gt || FloatKind.f64.format.order lo1 4640537203540230144 == some .eq) = true
    case pos =>
      rw [if_pos c2] at h
      simp only [Option.bind_eq_some_iff] at h
      obtain ⟨r, hr, h⟩ := h
      replace hr := run_op hr
      simp only [Option.some.injEq, Prod.mk.injEq] at h
      obtain ⟨e1, e2, e3⟩ := h
      subst e1
      subst e2
      subst e3
      go_wp2_with fail
      go_quiet (fail)
      go_wp2_with fail
      refine (nearestZone_any q yz n hn _).mono ?_
      rintro e w1 ⟨rfl, rfl⟩
      go_wp2_with fail
      refine (abs_any la1 fL.1 _).mono ?_
      rintro e w1 ⟨rfl, rfl⟩
      go_wp2_with fail
      refine (nl_walk la1 nl fL hnl _ ((Grew.alloc (Grew.refl (fun _ => False) w) _).drewN _ |>.trig (unhide HT))).mono ?_
      rintro e w1 ⟨rfl, rfl⟩
      go_wp2_with fail
      refine (nearestZone_any q2 xz m hm _).mono ?_
      rintro e w1 ⟨rfl, rfl⟩
      go_wp2_with fail
      go_ret3
      exact ⟨rfl, Grew.drewN (Grew.alloc (Grew.refl _ _) _) _⟩
    rw [if_neg c2] at h
    have k2 := Bool.eq_false_iff.2 c2
    clear c2
    by_cases c3 : (FloatKind.f64.format.order lo1 13863909240395005952 == some .lt) = true
    case pos =>
      rw [if_pos c3] at h
      simp only [Option.bind_eq_some_iff] at h
      obtain ⟨r, hr, h⟩ := h
      replace hr := run_op hr
      simp only [Option.some.injEq, Prod.mk.injEq] at h
      obtain ⟨e1, e2, e3⟩ := h
      subst e1
      subst e2
      subst e3
      go_wp2_with fail
      go_quiet (fail)
      go_wp2_with fail
      refine (nearestZone_any q yz n hn _).mono ?_
      rintro e w1 ⟨rfl, rfl⟩
      go_wp2_with fail
      refine (abs_any la1 fL.1 _).mono ?_
      rintro e w1 ⟨rfl, rfl⟩
      go_wp2_with fail
      refine (nl_walk la1 nl fL hnl _ ((Grew.alloc (Grew.refl (fun _ => False) w) _).drewN _ |>.trig (unhide HT))).mono ?_
      rintro e w1 ⟨rfl, rfl⟩
      go_wp2_with fail
      refine (nearestZone_any q2 xz m hm _).mono ?_
      rintro e w1 ⟨rfl, rfl⟩
      go_wp2_with fail
      go_ret3
      exact ⟨rfl, Grew.drewN (Grew.alloc (Grew.refl _ _) _) _⟩
    case neg =>
      rw [if_neg c3] at h
      have k3 := Bool.eq_false_iff.2 c3
      clear c3
      simp only [Option.some.injEq, Prod.mk.injEq] at h
      obtain ⟨e1, e2, e3⟩ := h
      subst e1
      subst e2
      subst e3
      go_wp2_with fail
      go_quiet (fail)
      go_wp2_with fail
      refine (nearestZone_any q yz n hn _).mono ?_
      rintro e w1 ⟨rfl, rfl⟩
      go_wp2_with fail
      refine (abs_any la1 fL.1 _).mono ?_
      rintro e w1 ⟨rfl, rfl⟩
      go_wp2_with fail
      refine (nl_walk la1 nl fL hnl _ ((Grew.alloc (Grew.refl (fun _ => False) w) _).drewN _ |>.trig (unhide HT))).mono ?_
      rintro e w1 ⟨rfl, rfl⟩
      go_wp2_with fail
      refine (nearestZone_any q2 xz m hm _).mono ?_
      rintro e w1 ⟨rfl, rfl⟩
      go_wp2_with fail
      go_ret3
      exact ⟨rfl, Grew.drewN (Grew.alloc (Grew.refl _ _) _) _⟩
  case neg =>
    have em : max (nl) 1 = 1 := by omega
    rw [em] at hlz
    clear em
    replace hlz := run_op hlz
    by_cases c2 : (FloatKind.f64.format.order lo1 4640537203540230144 == some .gt || FloatKind.f64.format.order lo1 4640537203540230144 == some .eq) = true
    case pos =>
      rw [if_pos c2] at h
      simp only [Option.bind_eq_some_iff] at h
      obtain ⟨r, hr, h⟩ := h
      replace hr := run_op hr
      simp only [Option.some.injEq, Prod.mk.injEq] at h
      obtain ⟨e1, e2, e3⟩ := h
      subst e1
      subst e2
      subst e3
      go_wp2_with fail
      go_quiet (fail)
      go_wp2_with fail
      refine (nearestZone_any q yz n hn _).mono ?_
      rintro e w1 ⟨rfl, rfl⟩
      go_wp2_with fail
      refine (abs_any la1 fL.1 _).mono ?_
      rintro e w1 ⟨rfl, rfl⟩
      go_wp2_with fail
      refine (nl_walk la1 nl fL hnl _ ((Grew.alloc (Grew.refl (fun _ => False) w) _).drewN _ |>.trig (unhide HT))).mono ?_
      rintro e w1 ⟨rfl, rfl⟩
      go_wp2_with fail
      refine (nearestZone_any q2 xz m hm _).mono ?_
      rintro e w1 ⟨rfl, rfl⟩
      go_wp2_with fail
      go_ret3
      exact ⟨rfl, Grew.drewN (Grew.alloc (Grew.refl _ _) _) _⟩
    rw [if_neg c2] at h
    have k2 := Bool.eq_false_iff.2 c2
    clear c2
    by_cases c3 : (FloatKind.f64.format.order lo1 13863909240395005952 == some .lt) = true
    case pos =>
      rw [if_pos c3] at h
      simp only [Option.bind_eq_some_iff] at h
      obtain ⟨r, hr, h⟩ := h
      replace hr := run_op hr
      simp only [Option.some.injEq, Prod.mk.injEq] at h
      obtain ⟨e1, e2, e3⟩ := h
      subst e1
      subst e2
      subst e3
      go_wp2_with fail
      go_quiet (fail)
      go_wp2_with fail
      refine (nearestZone_any q yz n hn _).mono ?_
      rintro e w1 ⟨rfl, rfl⟩
      go_wp2_with fail
      refine (abs_any la1 fL.1 _).mono ?_
      rintro e w1 ⟨rfl, rfl⟩
      go_wp2_with fail
      refine (nl_walk la1 nl fL hnl _ ((Grew.alloc (Grew.refl (fun _ => False) w) _).drewN _ |>.trig (unhide HT))).mono ?_
      rintro e w1 ⟨rfl, rfl⟩
      go_wp2_with fail
      refine (nearestZone_any q2 xz m hm _).mono ?_
      rintro e w1 ⟨rfl, rfl⟩
      go_wp2_with fail
      go_ret3
      exact ⟨rfl, Grew.drewN (Grew.alloc (Grew.refl _ _) _) _⟩
    case neg =>
      rw [if_neg c3] at h
      have k3 := Bool.eq_false_iff.2 c3
      clear c3
      simp only [Option.some.injEq, Prod.mk.injEq] at h
      obtain ⟨e1, e2, e3⟩ := h
      subst e1
      subst e2
      subst e3
      go_wp2_with fail
      go_quiet (fail)
      go_wp2_with fail
      refine (nearestZone_any q yz n hn _).mono ?_
      rintro e w1 ⟨rfl, rfl⟩
      go_wp2_with fail
      refine (abs_any la1 fL.1 _).mono ?_
      rintro e w1 ⟨rfl, rfl⟩
      go_wp2_with fail
      refine (nl_walk la1 nl fL hnl _ ((Grew.alloc (Grew.refl (fun _ => False) w) _).drewN _ |>.trig (unhide HT))).mono ?_
      rintro e w1 ⟨rfl, rfl⟩
      go_wp2_with fail
      refine (nearestZone_any q2 xz m hm _).mono ?_
      rintro e w1 ⟨rfl, rfl⟩
      go_wp2_with fail
      go_ret3
      exact ⟨rfl, Grew.drewN (Grew.alloc (Grew.refl _ _) _) _⟩

theorem local_any (odd : Bool) (lat lon rLat rLon la lo : Nat) (ok : Bool) (h : localF odd lat lon rLat rLon = some (la, lo, ok)) (w : World) (hT : Tabs w) :
    Calls Ybad.prog 7 #[cprV odd lat lon, .float .f64 rLat, .float .f64 rLon] w fun e w' => e = .returned (.tuple #[.float .f64 la, .float .f64 lo, .bool ok]) ∧ Grew (fun _ => False) w w' := by
  cases odd
  · exact local_false lat lon rLat rLon la lo ok h w hT
  · exact local_true lat lon rLat rLon la lo ok h w hT

end Go.Proofs.YbulkcyuwDoor
