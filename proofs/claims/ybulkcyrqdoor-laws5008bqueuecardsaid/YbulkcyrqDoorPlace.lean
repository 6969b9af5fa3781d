/-
  Wheel.place (6): a timer due within the revolution under way; one due in the next.
-/
import Derived.Test.YbulkcyrqDoorWheel
namespace Go.Proofs.YbulkcyrqDoor
open Go.RowKit

set_option maxHeartbeats 1000000 in
set_option maxRecDepth 100000 in
theorem place_lo (W A l0 la D t s0 u0 : Nat) (lk now : Int) (hd : Option Nat) (cnt c : Int) (st : Bool) (d : Nat) (w : World) (Post : World → Prop) (h1 : 1 ≤ d) (h2 : d < 64)
    (hW : Whe W A l0 la D lk now 0 hd cnt st w) (hl : w.rowIs l0 76 4 (levF s0 u0 c)) (ht : ∃ T, w.rowIs t 31 9 T ∧ T 3 = .int .i64 d)
    (HP : ∀ w', Only (fun _ => False) w w' → Calls Ybad.prog 5 #[.pointer (some ⟨s0, d * 4, none⟩), .pointer (some ⟨t, 0, none⟩)] w' fun e w'' => e = .returned (.tuple #[]) ∧ Post w'') :
    Calls Ybad.prog 6 #[.pointer (some ⟨W, 0, none⟩), .pointer (some ⟨t, 0, none⟩)] w fun e w'' => e = .returned (.tuple #[]) ∧ Post w'' := by
  obtain ⟨⟨F, f1, f2⟩, a1⟩ := hW
  obtain ⟨T, t1, t2⟩ := ht
  have x1 : w.cell? ⟨W, 1, none⟩ = some (.int .i64 64) := by rw [f1.cell (by omega), f2.n]
  have x8 : w.cell? ⟨W, 8, none⟩ = some (.int .i64 0) := by rw [f1.cell (by omega), f2.p]
  have x9 : w.cell? ⟨W, 9, none⟩ = some (.slice (some ⟨A, 0, none⟩) 1 1) := by rw [f1.cell (by omega), f2.lev]
  have x10 : w.cell? ⟨W, 10, none⟩ = some (.pointer (some ⟨la, 0, none⟩)) := by rw [f1.cell (by omega), f2.ah]
  have y0 : w.cell? ⟨A, 0, none⟩ = some (.pointer (some ⟨l0, 0, none⟩)) := a1.cell (i := 0) (by omega)
  have z1 : w.cell? ⟨l0, 1, none⟩ = some (.slice (some ⟨s0, 0, none⟩) 64 64) := hl.cell (i := 1) (by omega)
  have t3 : w.cell? ⟨t, 3, none⟩ = some (.int .i64 d) := by rw [t1.cell (by omega), t2]
  have q1 : ((d : Int) / 64) = 0 := by omega
  have q2 : ((d : Int) % 64) = d := by omega
  have q3 : d % 64 = d := by omega
  have q4 : Int.tmod (d : Int) 64 = d := by rw [Int.tmod_eq_emod_of_nonneg (by omega)]; omega
  have q5 : Int.tdiv (d : Int) 64 = 0 := by rw [Int.tdiv_eq_ediv_of_nonneg (by omega)]; omega
  have r1 : (0 : Int) ≤ (d : Int) := by omega
  have r2 : (d : Int) < 64 := by omega
  have HP' := hide HP
  clear f1 f2 a1 t1 t2 HP hl
  go_enter Ybad.func6, Ybad.ntmps6
  go_wp2_with fail
  go_region
  go_wp2_with fail
  refine wp_loop_rounds 1 ?_
  rw [rounds_succ]
  go_wp2_with fail
  go_region
  go_wp2_with fail
  refine wp_loop_rounds 1 ?_
  rw [rounds_succ]
  go_wp2_with fail
  go_region_with (go_at_call 5; refine (unhide HP' _ (by first | exact Only.refl _ _ | exact (Only.refl _ _).drew | exact (Only.refl _ _).drew.drew | exact (Only.refl _ _).drew.drew.drew)).mono ?_; rintro e w1 ⟨rfl, hp⟩)
  all_goals
    go_wp2_with fail
    go_end0
    exact ⟨rfl, hp⟩

set_option maxHeartbeats 1000000 in
set_option maxRecDepth 100000 in
theorem place_hi (W A l0 la D t s0 u0 : Nat) (lk now : Int) (hd : Option Nat) (cnt c : Int) (st : Bool) (d : Nat) (w : World) (Post : World → Prop) (j : Nat) (hj : d = 64 + j) (h2 : j < 64)
    (hW : Whe W A l0 la D lk now 0 hd cnt st w) (hl : w.rowIs la 76 4 (levF s0 u0 c)) (ht : ∃ T, w.rowIs t 31 9 T ∧ T 3 = .int .i64 d)
    (HP : ∀ w', Only (fun _ => False) w w' → Calls Ybad.prog 5 #[.pointer (some ⟨s0, j * 4, none⟩), .pointer (some ⟨t, 0, none⟩)] w' fun e w'' => e = .returned (.tuple #[]) ∧ Post w'') :
    Calls Ybad.prog 6 #[.pointer (some ⟨W, 0, none⟩), .pointer (some ⟨t, 0, none⟩)] w fun e w'' => e = .returned (.tuple #[]) ∧ Post w'' := by
  obtain ⟨⟨F, f1, f2⟩, a1⟩ := hW
  obtain ⟨T, t1, t2⟩ := ht
  have x1 : w.cell? ⟨W, 1, none⟩ = some (.int .i64 64) := by rw [f1.cell (by omega), f2.n]
  have x8 : w.cell? ⟨W, 8, none⟩ = some (.int .i64 0) := by rw [f1.cell (by omega), f2.p]
  have x9 : w.cell? ⟨W, 9, none⟩ = some (.slice (some ⟨A, 0, none⟩) 1 1) := by rw [f1.cell (by omega), f2.lev]
  have x10 : w.cell? ⟨W, 10, none⟩ = some (.pointer (some ⟨la, 0, none⟩)) := by rw [f1.cell (by omega), f2.ah]
  have y0 : w.cell? ⟨A, 0, none⟩ = some (.pointer (some ⟨l0, 0, none⟩)) := a1.cell (i := 0) (by omega)
  have z1 : w.cell? ⟨la, 1, none⟩ = some (.slice (some ⟨s0, 0, none⟩) 64 64) := hl.cell (i := 1) (by omega)
  have t3 : w.cell? ⟨t, 3, none⟩ = some (.int .i64 d) := by rw [t1.cell (by omega), t2]
  have q4 : Int.tmod (d : Int) 64 = j := by rw [Int.tmod_eq_emod_of_nonneg (by omega)]; omega
  have q5 : Int.tdiv (d : Int) 64 = 1 := by rw [Int.tdiv_eq_ediv_of_nonneg (by omega)]; omega
  have q6 : (d : Int) / 64 = 1 := by omega
  have q7 : (d : Int) % 64 = j := by omega
  have r2 : (j : Int) < 64 := by omega
  have HP' := hide HP
  clear f1 f2 a1 t1 t2 HP hl hj
  go_enter Ybad.func6, Ybad.ntmps6
  go_wp2_with fail
  go_region
  go_wp2_with fail
  refine wp_loop_rounds 2 ?_
  rw [rounds_succ]
  go_wp2_with fail
  go_region
  go_wp2_with fail
  go_region
  go_wp2_with fail
  rw [rounds_succ]
  go_wp2_with fail
  go_region
  go_wp2_with fail
  go_region_with (go_at_call 5; refine (unhide HP' _ (by first | exact Only.refl _ _ | exact (Only.refl _ _).drew | exact (Only.refl _ _).drew.drew | exact (Only.refl _ _).drew.drew.drew | exact (Only.refl _ _).drew.drew.drew.drew | exact (Only.refl _ _).drew.drew.drew.drew.drew)).mono ?_; rintro e w1 ⟨rfl, hp⟩)
  all_goals
    go_wp2_with fail
    (try simp only [Exit.inBlock, Exit.then])
    refine bodyPost_ret (results_none rfl _ _ _) rfl ?_
    exact ⟨rfl, hp⟩
end Go.Proofs.YbulkcyrqDoor
