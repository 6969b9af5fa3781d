/-
  THE PROOF OF 'Rows.LawS5008CModelSaid': the guide's frame (proof-skeleton.mjs) with the walk filled in: the cases are parted ahead of each walk.
-/
import Derived.Test.YbulkcyrqRows
import Derived.WalkKit
import Derived.ProofKit
import Derived.OpenShut
import Derived.ShutString
import Derived.Lib.Builder
namespace Go.Proofs.Ybulkcyrq.lawS5008CModel
open Go.ChangeShapes Go.WideShapes Go.ChangeAt Go.RowKit
open Go.ChangeMaps (open_string shut_string)
set_option linter.unusedVariables false      -- a walk need not use every 'w<i>' (that an integer argument fits its kind)

theorem own : ownKnob Yba.prog.godebug = none := by kernel_rfl

theorem info80 : ∃ j, Yba.prog.info? 80 = some j := Option.isSome_iff_exists.1 (by kernel_rfl)
theorem info66 : ∃ j, Yba.prog.info? 66 = some j := Option.isSome_iff_exists.1 (by kernel_rfl)
theorem ne74 (a : Addr) (w : World) : (binOp .neq 74 (.pointer (some a)) (.pointer (some a))).run Yba.prog w = .ok (.bool false) w := by
  obtain ⟨j, hj⟩ := info80
  exact Lib.run_neq_ptr_same w a Yba.underlying74 hj
theorem ne75 (a : Addr) (w : World) : (binOp .neq 75 (.pointer (some a)) (.pointer (some a))).run Yba.prog w = .ok (.bool false) w := by
  obtain ⟨j, hj⟩ := info66
  exact Lib.run_neq_ptr_same w a Yba.underlying75 hj
set_option maxHeartbeats 1000000 in
set_option maxRecDepth 100000 in
theorem walkT (a1 : Bool) (a2 : Bool) (a3 : Bool) (a4 : Int) (a5 : Int)  (w : World) :
    Calls Yba.prog 4 #[.bool true, .bool a1, .bool a2, .bool a3, .int .u32 a4, .int .u32 a5] w fun e w' => e = .returned (.bool true) ∧ Grown w w' := by
  have h74 := ne74
  have h75 := ne75
  cases a2
  · go_enter Yba.func4, Yba.ntmps4
    go_wp2
    go_ret
    exact ⟨rfl, by repeat (first | exact Grown.refl _ | apply Grown.drew | apply Grown.alloc)⟩
  · go_enter Yba.func4, Yba.ntmps4
    go_wp2
    go_ret
    exact ⟨rfl, by repeat (first | exact Grown.refl _ | apply Grown.drew | apply Grown.alloc)⟩
set_option maxHeartbeats 1000000 in
set_option maxRecDepth 100000 in
theorem walkS (a1 : Bool) (a3 : Bool) (a4 : Int) (a5 : Int)  (w : World) :
    Calls Yba.prog 4 #[.bool false, .bool a1, .bool true, .bool a3, .int .u32 a4, .int .u32 a5] w fun e w' => e = .returned (.bool true) ∧ Grown w w' := by
  have h74 := ne74
  have h75 := ne75
  go_enter Yba.func4, Yba.ntmps4
  go_wp2
  go_region
  all_goals go_wp2
  all_goals go_ret
  all_goals exact ⟨rfl, by repeat (first | exact Grown.refl _ | apply Grown.drew | apply Grown.alloc)⟩
set_option maxHeartbeats 1000000 in
set_option maxRecDepth 100000 in
theorem walkN (a1 : Bool) (a4 : Int) (a5 : Int)  (w : World) :
    Calls Yba.prog 4 #[.bool false, .bool a1, .bool false, .bool false, .int .u32 a4, .int .u32 a5] w fun e w' => e = .returned (.bool true) ∧ Grown w w' := by
  have h74 := ne74
  have h75 := ne75
  go_enter Yba.func4, Yba.ntmps4
  go_wp2
  go_region
  all_goals go_wp2
  all_goals go_ret
  all_goals exact ⟨rfl, by repeat (first | exact Grown.refl _ | apply Grown.drew | apply Grown.alloc)⟩
set_option maxHeartbeats 1000000 in
set_option maxRecDepth 100000 in
theorem walkC (a1 : Bool) (a4 : Int) (a5 : Int)  (w : World) :
    Calls Yba.prog 4 #[.bool false, .bool a1, .bool false, .bool true, .int .u32 a4, .int .u32 a5] w fun e w' => e = .returned (.bool true) ∧ Grown w w' := by
  have h74 := ne74
  have h75 := ne75
  by_cases hlt : a5 < a4
  all_goals
    go_enter Yba.func4, Yba.ntmps4
    go_wp2
    go_region
    all_goals go_wp2
    all_goals go_ret
    all_goals exact ⟨rfl, by repeat (first | exact Grown.refl _ | apply Grown.drew | apply Grown.alloc)⟩
theorem walk (a0 : Bool) (a1 : Bool) (a2 : Bool) (a3 : Bool) (a4 : Int) (a5 : Int) (w4 : (Lit.int .u32 a4).wf = true) (w5 : (Lit.int .u32 a5).wf = true) (w : World) :
    Calls Yba.prog 4 #[.bool a0, .bool a1, .bool a2, .bool a3, .int .u32 a4, .int .u32 a5] w fun e w' => e = .returned (.bool true) ∧ Grown w w' := by
  cases a0
  · cases a2
    · cases a3
      · exact walkN a1 a4 a5 w
      · exact walkC a1 a4 a5 w
    · exact walkS a1 a3 a4 a5 w
  · exact walkT a1 a2 a3 a4 a5 w

/-! ### THE ROW's STEP: WRITTEN OUT: LEAVE IT -/
set_option maxRecDepth 100000 in
theorem lifted (os : Os) (started : os.Started) (H : Type) (enc : TypeId × Value → H) :
    ReturnsInHanded {} Yba.checked os 4 .any (Rows.lawS5008CModelSpec.pre6 enc Yba.prog Yba.f4 Rows.lawS5008CModelRow.domain false) (Rows.lawS5008CModelSpec.post enc Yba.prog Yba.f4 false true false false) := by
  refine returnsInHanded_of_change (C := Yba.checked) own started (by kernel_rfl) Yba.func4
    (ChangeSpec.witness6 (enc := enc) (C := Yba.checked) false ⟨#[], #[.bool false, .bool false, .bool false, .bool false, .int .u32 0, .int .u32 0], []⟩ 8 (by kernel_rfl) (by kernel_rfl) (by kernel_rfl) (by kernel_rfl)) ?_
  intro W base args ds gs before hval0 hW hcnd _
  have hval : ∀ (j : Nat) t v, Yba.f4.params[j]? = some t → args[j]? = some v → Value.okWide Yba.prog W .any base t v := hval0
  have hW' := hW
  obtain ⟨p, q, hA0, hV, rfl, hfz, hnd⟩ := hW
  have hA : DataW.TrodAll enc Yba.prog W 0 (fun _ => true) true Yba.f4.params.toList args.toList ds p := hA0
  rw [Yba.params4] at hA hval
  obtain ⟨v0, vs0, d0, ds0, p0, q0, hargs, rfl, rfl, h0, r0⟩ := trodAll_cons hA
  obtain ⟨v1, vs1, d1, ds1, p1, q1, rfl, rfl, rfl, h1, r1⟩ := trodAll_cons r0
  obtain ⟨v2, vs2, d2, ds2, p2, q2, rfl, rfl, rfl, h2, r2⟩ := trodAll_cons r1
  obtain ⟨v3, vs3, d3, ds3, p3, q3, rfl, rfl, rfl, h3, r3⟩ := trodAll_cons r2
  obtain ⟨v4, vs4, d4, ds4, p4, q4, rfl, rfl, rfl, h4, r4⟩ := trodAll_cons r3
  obtain ⟨v5, vs5, d5, ds5, p5, q5, rfl, rfl, rfl, h5, r5⟩ := trodAll_cons r4
  obtain ⟨rfl, rfl, rfl⟩ := trodAll_nil r5
  obtain rfl : args = #[v0, v1, v2, v3, v4, v5] := by cases args; simp_all
  obtain ⟨rfl, rfl⟩ := trodVars_none hV
  obtain ⟨a0, rfl, rfl, rfl⟩ := open_bool Yba.underlying4 (hval 0 4 v0 rfl rfl) h0
  obtain ⟨a1, rfl, rfl, rfl⟩ := open_bool Yba.underlying4 (hval 1 4 v1 rfl rfl) h1
  obtain ⟨a2, rfl, rfl, rfl⟩ := open_bool Yba.underlying4 (hval 2 4 v2 rfl rfl) h2
  obtain ⟨a3, rfl, rfl, rfl⟩ := open_bool Yba.underlying4 (hval 3 4 v3 rfl rfl) h3
  obtain ⟨a4, rfl, rfl, rfl, w4⟩ := open_int Yba.underlying46 (hval 4 46 v4 rfl rfl) h4
  obtain ⟨a5, rfl, rfl, rfl, w5⟩ := open_int Yba.underlying46 (hval 5 46 v5 rfl rfl) h5
  clear hA0 hval0
  simp only [List.append_nil] at hW'
  refine (walk a0 a1 a2 a3 a4 a5 w4 w5 W).mono fun e W' ⟨he, hg⟩ => ?_
  subst he
  exact ⟨_, rfl, post_of_same (pa := []) (pv := []) hW' (fun _ _ _ => (trodAll_cons_mk (shut_bool Yba.underlying4 _) trodAll_mk0)) (fun sp _ => (trodAll_cons_mk (shut_bool Yba.underlying4 _) (trodAll_cons_mk (shut_bool Yba.underlying4 _) (trodAll_cons_mk (shut_bool Yba.underlying4 _) (trodAll_cons_mk (shut_bool Yba.underlying4 _) (trodAll_cons_mk (shut_int Yba.underlying46 w4) (trodAll_cons_mk (shut_int Yba.underlying46 w5) trodAll_mk0))))))) (fun _ _ => rfl) rfl
    (hg.frame _) hg.2.1 (ok_one (by kernel_rfl) rfl (okWide_bool_mk Yba.underlying4 _))⟩

theorem over : Rows.lawS5008CModelRow.holds Yba.pinned (OpenSpec.ofChange Rows.lawS5008CModelSpec) :=
  OpenClaim.holds_of_wide 4 Yba.f4 rfl rfl rfl rfl rfl rfl rfl ⟨rfl, rfl, rfl, rfl, rfl⟩ rfl rfl rfl rfl rfl (by kernel_rfl) Yba.func4 (by kernel_rfl)
    (of_decide_eq_true (by kernel_rfl)) (by unfold Func.isWrapper; first | (rw [if_pos (by decide +kernel)]; kernel_rfl) | (rw [if_neg (by decide +kernel)]; exact ⟨rfl, rfl⟩))
    (fun os started H enc _ => lifted os started H enc)

/-- ████ THE STATEMENT ████ -/
theorem proved : Rows.LawS5008CModelSaid :=
  over
end Go.Proofs.Ybulkcyrq.lawS5008CModel
