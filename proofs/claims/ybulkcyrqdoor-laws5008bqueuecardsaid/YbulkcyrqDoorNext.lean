/-
  level.first once more, aheadStart (31), upcoming (33), drain (21), reach (20), nextSlot (19).
-/
import Derived.Test.YbulkcyrqDoorWheel
namespace Go.Proofs.YbulkcyrqDoor
open Go.RowKit

set_option maxHeartbeats 1000000 in
set_option maxRecDepth 100000 in
theorem first_eq (l s u m k : Nat) (c : Int) (w : World) (hm : m < 18446744073709551616) (hm0 : m ≠ 0) (hk : Lib.ctz 64 m = k) (hk64 : k ≤ 64) (hT : TabAt 0 Lib.deBruijn64tab w)
    (hl : w.rowIs l 76 4 (levF s u c)) (hu : w.rowIs u 45 1 (oneF (.int .u64 m))) :
    Calls Ybad.prog 32 #[.pointer (some ⟨l, 0, none⟩), .int .i64 0] w fun e w' => e = .returned (.int .i64 k) ∧ w = w' := by
  have a1 : w.cell? ⟨l, 2, none⟩ = some (.slice (some ⟨u, 0, none⟩) 1 1) := hl.cell (i := 2) (by omega)
  have a3 : w.cell? ⟨u, 0, none⟩ = some (.int .u64 m) := hu.cell (i := 0) (by omega)
  have hz := fun w hT => tz_any m hm w hT
  rw [hk] at hz
  have HZ := hide hz
  have HT := hide hT
  have hne : ((m : Int) != 0) = true := by rw [bne_iff_ne]; omega
  clear hl hu hz hT
  go_enter Ybad.func32, Ybad.ntmps32
  go_wp2_with fail
  refine wp_loop_rounds 1 ?_
  rw [rounds_succ]
  go_wp2_with fail
  refine (unhide HZ _ (unhide HT)).mono ?_
  rintro e w1 ⟨rfl, rfl⟩
  go_wp2_with fail
  go_ret
  exact ⟨rfl, rfl⟩

set_option maxHeartbeats 1000000 in
set_option maxRecDepth 100000 in
theorem start_zero (W : Nat) (w : World) (x1 : w.cell? ⟨W, 1, none⟩ = some (.int .i64 64)) (x8 : w.cell? ⟨W, 8, none⟩ = some (.int .i64 0)) :
    Calls Ybad.prog 31 #[.pointer (some ⟨W, 0, none⟩)] w fun e w' => e = .returned (.int .i64 64) ∧ w' = w.drew := by
  go_enter Ybad.func31, Ybad.ntmps31
  go_wp2_with fail
  go_region
  go_wp2_with fail
  go_ret
  exact ⟨rfl, rfl⟩

set_option maxHeartbeats 1000000 in
set_option maxRecDepth 100000 in
theorem upcoming_none (W A : Nat) (w : World) (x9 : w.cell? ⟨W, 9, none⟩ = some (.slice (some ⟨A, 0, none⟩) 1 1)) :
    Calls Ybad.prog 33 #[.pointer (some ⟨W, 0, none⟩)] w fun e w' => e = .returned (.pointer none) ∧ w = w' := by
  go_enter Ybad.func33, Ybad.ntmps33
  go_wp2_with fail
  go_ret
  exact ⟨rfl, rfl⟩

set_option maxHeartbeats 1000000 in
set_option maxRecDepth 100000 in
theorem drain_none (W A : Nat) (w : World) (x9 : w.cell? ⟨W, 9, none⟩ = some (.slice (some ⟨A, 0, none⟩) 1 1)) :
    Calls Ybad.prog 21 #[.pointer (some ⟨W, 0, none⟩)] w fun e w' => e = .returned (.tuple #[]) ∧ w = w' := by
  have HU := hide (upcoming_none W A w x9)
  go_enter Ybad.func21, Ybad.ntmps21
  go_wp2_with (first | (go_at_call 33; refine (unhide HU).mono ?_; rintro e w1 ⟨rfl, rfl⟩))
  (try simp only [Exit.inBlock, Exit.then])
  refine bodyPost_ret (results_none rfl _ _ _) rfl ?_
  exact ⟨rfl, rfl⟩

set_option maxHeartbeats 1000000 in
set_option maxRecDepth 100000 in
theorem reach_lo (W A l0 la D : Nat) (lk now : Int) (hd : Option Nat) (cnt : Int) (st : Bool) (d : Nat) (w : World) (h2 : d < 64) (hW : Whe W A l0 la D lk now 0 hd cnt st w) :
    Calls Ybad.prog 20 #[.pointer (some ⟨W, 0, none⟩), .int .i64 d] w fun e w' => e = .returned (.tuple #[]) ∧ Whe W A l0 la D lk now d hd cnt st w' ∧ Only (fun k => k = W ∨ k = A) w w' := by
  obtain ⟨⟨F, f1, f2⟩, a1⟩ := hW
  have x1 : w.cell? ⟨W, 1, none⟩ = some (.int .i64 64) := by rw [f1.cell (by omega), f2.n]
  have x8 : w.cell? ⟨W, 8, none⟩ = some (.int .i64 0) := by rw [f1.cell (by omega), f2.p]
  have g8 := f1.frozen 8
  have q5 : Int.tdiv (d : Int) 64 = 0 := by rw [Int.tdiv_eq_ediv_of_nonneg (by omega)]; omega
  have q6 : (d : Int) / 64 = 0 := by omega
  have HF := hide f1
  have HA := hide a1
  have hne := row_ne f1 a1 (by decide)
  clear f1 a1
  go_enter Ybad.func20, Ybad.ntmps20
  go_wp2_with fail
  go_region
  go_wp2_with fail
  go_end0
  refine ⟨rfl, ⟨⟨_, row_set ((unhide HF).drew) 8 _, ?_⟩, ?_⟩, ?_⟩
  · obtain ⟨e1, e2, e3, e4, e5, e6, e7, e8, e9, e10, e11⟩ := f2
    constructor <;> simp [upd, *]
  · exact ((unhide HA).drew).setOther (a := ⟨W, 8, none⟩) (Ne.symm hne) _
  · exact (Only.refl _ w).drew.setCell (a := ⟨W, 8, none⟩) (.inl rfl) _

set_option maxHeartbeats 1000000 in
set_option maxRecDepth 100000 in
theorem reach_hi (W A l0 la D : Nat) (lk now : Int) (hd : Option Nat) (cnt : Int) (st : Bool) (d : Nat) (w : World) (h1 : 64 ≤ d) (h2 : d < 128) (hW : Whe W A l0 la D lk now 0 hd cnt st w) :
    Calls Ybad.prog 20 #[.pointer (some ⟨W, 0, none⟩), .int .i64 d] w fun e w' => e = .returned (.tuple #[]) ∧ Whe W A la l0 D lk now d hd cnt st w' ∧ Only (fun k => k = W ∨ k = A) w w' := by
  obtain ⟨⟨F, f1, f2⟩, a1⟩ := hW
  have x1 : w.cell? ⟨W, 1, none⟩ = some (.int .i64 64) := by rw [f1.cell (by omega), f2.n]
  have x8 : w.cell? ⟨W, 8, none⟩ = some (.int .i64 0) := by rw [f1.cell (by omega), f2.p]
  have x9 : w.cell? ⟨W, 9, none⟩ = some (.slice (some ⟨A, 0, none⟩) 1 1) := by rw [f1.cell (by omega), f2.lev]
  have x10 : w.cell? ⟨W, 10, none⟩ = some (.pointer (some ⟨la, 0, none⟩)) := by rw [f1.cell (by omega), f2.ah]
  have y0 : w.cell? ⟨A, 0, none⟩ = some (.pointer (some ⟨l0, 0, none⟩)) := a1.cell (i := 0) (by omega)
  have g8 := f1.frozen 8
  have g10 := f1.frozen 10
  have gA := a1.frozen 0
  have q5 : Int.tdiv (d : Int) 64 = 1 := by rw [Int.tdiv_eq_ediv_of_nonneg (by omega)]; omega
  have q6 : (d : Int) / 64 = 1 := by omega
  have HF := hide f1
  have HA := hide a1
  have hne := row_ne f1 a1 (by decide)
  have hne' := Ne.symm hne
  clear f1 a1
  go_enter Ybad.func20, Ybad.ntmps20
  go_wp2_with fail
  go_region
  go_wp2_with fail
  go_region
  all_goals
    go_wp2_with fail
    go_end0
    refine ⟨rfl, ⟨⟨_, row_set ((row_set ((unhide HF).setOther (a := ⟨A, 0, none⟩) hne _) 10 _).drew.drew) 8 _, ?_⟩, ?_⟩, ?_⟩
    · obtain ⟨e1, e2, e3, e4, e5, e6, e7, e8, e9, e10, e11⟩ := f2
      constructor <;> simp [upd, *]
    · exact (((one_set (unhide HA)).setOther (a := ⟨W, 10, none⟩) hne' _).drew.drew).setOther (a := ⟨W, 8, none⟩) hne' _
    · exact (((Only.refl _ w).setCell (a := ⟨A, 0, none⟩) (.inr rfl) _).setCell (a := ⟨W, 10, none⟩) (.inl rfl) _).drew.drew.setCell (a := ⟨W, 8, none⟩) (.inl rfl) _

/-- The bits of a mask: the lowest that is set. -/
theorem ctz_least (m : Nat) (hm : m < 18446744073709551616) (j : Nat) (h1 : m.testBit j = true) (h2 : ∀ i, i < j → m.testBit i = false) : Lib.ctz 64 m = j := by
  have h0 : m ≠ 0 := by rintro rfl; simp at h1
  obtain ⟨k, e, hlt⟩ := Lib.ctzFrom_spec 64 m (by omega) hm
  have hc : Lib.ctz 64 m = Lib.ctzFrom 64 m := by simp [Lib.ctz, h0]
  rw [hc]
  generalize Lib.ctzFrom 64 m = c at *
  have b1 : ∀ i, i < c → m.testBit i = false := fun i hi => by rw [e, Nat.testBit_two_pow_mul]; simp; omega
  have b2 : m.testBit c = true := by rw [e, Nat.testBit_two_pow_mul]; simp
  rcases Nat.lt_trichotomy c j with h | h | h
  · have := h2 c h; rw [b2] at this; cases this
  · exact h
  · have := b1 j h; rw [h1] at this; cases this

set_option maxHeartbeats 1000000 in
set_option maxRecDepth 100000 in
theorem next_lo (W A l0 la D s0 u0 : Nat) (lk now : Int) (hd : Option Nat) (cnt : Int) (st : Bool) (c : Int) (m k : Nat) (w : World) (hm : m < 18446744073709551616) (hm0 : m ≠ 0) (hk : Lib.ctz 64 m = k) (hk64 : k < 64) (hT : TabAt 0 Lib.deBruijn64tab w)
    (hW : Whe W A l0 la D lk now 0 hd cnt st w) (hl : w.rowIs l0 76 4 (levF s0 u0 c)) (hu : w.rowIs u0 45 1 (oneF (.int .u64 m))) (hc : 1 ≤ c) :
    Calls Ybad.prog 19 #[.pointer (some ⟨W, 0, none⟩)] w fun e w' => e = .returned (.tuple #[.pointer (some ⟨s0, k * 4, none⟩), .int .i64 k]) ∧ Only (fun _ => False) w w' := by
  obtain ⟨⟨F, f1, f2⟩, a1⟩ := hW
  have x1 : w.cell? ⟨W, 1, none⟩ = some (.int .i64 64) := by rw [f1.cell (by omega), f2.n]
  have x8 : w.cell? ⟨W, 8, none⟩ = some (.int .i64 0) := by rw [f1.cell (by omega), f2.p]
  have x9 : w.cell? ⟨W, 9, none⟩ = some (.slice (some ⟨A, 0, none⟩) 1 1) := by rw [f1.cell (by omega), f2.lev]
  have y0 : w.cell? ⟨A, 0, none⟩ = some (.pointer (some ⟨l0, 0, none⟩)) := a1.cell (i := 0) (by omega)
  have z0 : w.cell? ⟨l0, 0, none⟩ = some (.int .i64 1) := hl.cell (i := 0) (by omega)
  have z1 : w.cell? ⟨l0, 1, none⟩ = some (.slice (some ⟨s0, 0, none⟩) 64 64) := hl.cell (i := 1) (by omega)
  have z3 : w.cell? ⟨l0, 3, none⟩ = some (.int .i64 c) := hl.cell (i := 3) (by omega)
  have hcd : decide (c = 0) = false := by rw [decide_eq_false_iff_not]; omega
  have HS := hide (start_zero W w x1 x8)
  have HF := hide (fun w hT hl hu => first_eq l0 s0 u0 m k c w hm hm0 hk (by omega) hT hl hu)
  have HL := hide hl
  have HU := hide hu
  have HT := hide hT
  have q2 : (k : Int) < 64 := by omega
  clear f1 f2 a1 hl hu hT
  go_enter Ybad.func19, Ybad.ntmps19
  go_wp2_with (first | (go_at_call 31; refine (unhide HS).mono ?_; rintro e w1 ⟨rfl, rfl⟩))
  refine wp_loop_rounds 1 ?_
  rw [rounds_succ]
  go_wp2_with fail
  go_region
  go_wp2_with (first | (go_at_call 32; refine (unhide HF _ (by exact unhide HT) (by exact (unhide HL).drew.drew) (by exact (unhide HU).drew.drew)).mono ?_; rintro e w1 ⟨rfl, rfl⟩))
  go_region
  go_wp2_with fail
  go_ret2
  exact ⟨rfl, (Only.refl _ w).drew.drew.drew⟩

set_option maxHeartbeats 1000000 in
set_option maxRecDepth 100000 in
theorem next_hi (W A l0 la D s0 u0 s1 u1 : Nat) (lk now : Int) (hd : Option Nat) (cnt : Int) (st : Bool) (c : Int) (m k : Nat) (w : World) (hm : m < 18446744073709551616) (hm0 : m ≠ 0) (hk : Lib.ctz 64 m = k) (hk64 : k < 64) (hT : TabAt 0 Lib.deBruijn64tab w)
    (hW : Whe W A l0 la D lk now 0 hd cnt st w) (hl0 : w.rowIs l0 76 4 (levF s0 u0 0)) (hl : w.rowIs la 76 4 (levF s1 u1 c)) (hu : w.rowIs u1 45 1 (oneF (.int .u64 m))) (hc : 1 ≤ c) :
    Calls Ybad.prog 19 #[.pointer (some ⟨W, 0, none⟩)] w fun e w' => e = .returned (.tuple #[.pointer (some ⟨s1, k * 4, none⟩), .int .i64 ((64 + k : Nat) : Int)]) ∧ Only (fun _ => False) w w' := by
  obtain ⟨⟨F, f1, f2⟩, a1⟩ := hW
  have x1 : w.cell? ⟨W, 1, none⟩ = some (.int .i64 64) := by rw [f1.cell (by omega), f2.n]
  have x8 : w.cell? ⟨W, 8, none⟩ = some (.int .i64 0) := by rw [f1.cell (by omega), f2.p]
  have x9 : w.cell? ⟨W, 9, none⟩ = some (.slice (some ⟨A, 0, none⟩) 1 1) := by rw [f1.cell (by omega), f2.lev]
  have x10 : w.cell? ⟨W, 10, none⟩ = some (.pointer (some ⟨la, 0, none⟩)) := by rw [f1.cell (by omega), f2.ah]
  have y0 : w.cell? ⟨A, 0, none⟩ = some (.pointer (some ⟨l0, 0, none⟩)) := a1.cell (i := 0) (by omega)
  have z3 : w.cell? ⟨l0, 3, none⟩ = some (.int .i64 0) := hl0.cell (i := 3) (by omega)
  have z1 : w.cell? ⟨la, 1, none⟩ = some (.slice (some ⟨s1, 0, none⟩) 64 64) := hl.cell (i := 1) (by omega)
  have z4 : w.cell? ⟨la, 3, none⟩ = some (.int .i64 c) := hl.cell (i := 3) (by omega)
  have hcd : decide (c = 0) = false := by rw [decide_eq_false_iff_not]; omega
  have HS := hide (start_zero W w x1 x8)
  have HF := hide (fun w hT hl hu => first_eq la s1 u1 m k c w hm hm0 hk (by omega) hT hl hu)
  have HL := hide hl
  have HU := hide hu
  have HT := hide hT
  have q2 : (k : Int) < 64 := by omega
  clear f1 f2 a1 hl hu hT hl0
  go_enter Ybad.func19, Ybad.ntmps19
  go_wp2_with (first | (go_at_call 31; refine (unhide HS).mono ?_; rintro e w1 ⟨rfl, rfl⟩))
  refine wp_loop_rounds 2 ?_
  rw [rounds_succ]
  go_wp2_with fail
  rw [rounds_succ]
  go_wp2_with (first | (go_at_call 32; refine (unhide HF _ (by exact unhide HT) (by exact (unhide HL).drew) (by exact (unhide HU).drew)).mono ?_; rintro e w1 ⟨rfl, rfl⟩))
  go_ret2
  refine ⟨?_, (Only.refl _ w).drew⟩
  first | rfl | (simp; omega) | simp

set_option maxHeartbeats 1000000 in
set_option maxRecDepth 100000 in
theorem next_none (W A l0 la D s0 u0 s1 u1 : Nat) (lk now : Int) (hd : Option Nat) (cnt : Int) (st : Bool) (w : World)
    (hW : Whe W A l0 la D lk now 0 hd cnt st w) (hl0 : w.rowIs l0 76 4 (levF s0 u0 0)) (hl : w.rowIs la 76 4 (levF s1 u1 0)) :
    Calls Ybad.prog 19 #[.pointer (some ⟨W, 0, none⟩)] w fun e w' => e = .returned (.tuple #[.pointer none, .int .i64 0]) ∧ Only (fun _ => False) w w' := by
  obtain ⟨⟨F, f1, f2⟩, a1⟩ := hW
  have x1 : w.cell? ⟨W, 1, none⟩ = some (.int .i64 64) := by rw [f1.cell (by omega), f2.n]
  have x8 : w.cell? ⟨W, 8, none⟩ = some (.int .i64 0) := by rw [f1.cell (by omega), f2.p]
  have x9 : w.cell? ⟨W, 9, none⟩ = some (.slice (some ⟨A, 0, none⟩) 1 1) := by rw [f1.cell (by omega), f2.lev]
  have x10 : w.cell? ⟨W, 10, none⟩ = some (.pointer (some ⟨la, 0, none⟩)) := by rw [f1.cell (by omega), f2.ah]
  have y0 : w.cell? ⟨A, 0, none⟩ = some (.pointer (some ⟨l0, 0, none⟩)) := a1.cell (i := 0) (by omega)
  have z3 : w.cell? ⟨l0, 3, none⟩ = some (.int .i64 0) := hl0.cell (i := 3) (by omega)
  have z4 : w.cell? ⟨la, 3, none⟩ = some (.int .i64 0) := hl.cell (i := 3) (by omega)
  have HS := hide (start_zero W w x1 x8)
  clear f1 f2 a1 hl hl0
  go_enter Ybad.func19, Ybad.ntmps19
  go_wp2_with (first | (go_at_call 31; refine (unhide HS).mono ?_; rintro e w1 ⟨rfl, rfl⟩))
  refine wp_loop_rounds 2 ?_
  rw [rounds_succ]
  go_wp2_with fail
  rw [rounds_succ]
  go_wp2_with fail
  go_ret2
  exact ⟨rfl, (Only.refl _ w).drew⟩
end Go.Proofs.YbulkcyrqDoor
