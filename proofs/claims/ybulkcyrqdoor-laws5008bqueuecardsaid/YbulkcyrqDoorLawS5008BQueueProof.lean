/-
  THE PROOF OF 'Rows.LawS5008BQueueCardSaid': the row (its listed table read off 'laid'), then the card by the given tie.
-/
import Derived.Test.YbulkcyrqDoorCards
import Derived.Test.YbulkcyrqDoorTie
import Derived.Test.YbulkcyrqDoorLaw
import Derived.WalkKit
import Derived.ProofKit
import Derived.OpenShut
import Derived.ShutString
import Derived.ChangeSame
import Derived.ChangeVars
import Derived.ChangeOld
import Derived.JoinedOf
import Derived.RowKit
import Derived.LaidLaws
import Derived.LaidHandle
import Derived.Lib.LaidTab
import Derived.Stop.Joined
import Derived.Below
import Derived.SevenTiedAt
namespace Go.Proofs.YbulkcyrqDoor.lawS5008BQueue
open Go.ChangeShapes Go.WideShapes Go.ChangeAt Go.RowKit
set_option linter.unusedVariables false

theorem own : ownKnob Ybad.prog.godebug = none := by kernel_rfl
theorem laidOut : laidOutB Ybad.prog = true := by kernel_rfl
theorem gT : Ybad.prog.globalNamed "math/bits.deBruijn64tab" = some 0 := by kernel_rfl

def IsRow (k : IntKind) (w : World) (a : Option Addr) (len cap : Nat) (zs : List Int) : Prop :=
  (a = none ∧ len = 0 ∧ cap = 0 ∧ zs = []) ∨
  ∃ x, a = some x ∧ len ≤ cap ∧ cap ≤ maxLen ∧ zs.length = cap ∧ (∀ i, i < zs.length → w.cell? (x.add i) = some (.int k (zs.getD i 0))) ∧ ∀ n ∈ zs, (Lit.int k n).wf = true

theorem walk (st : Bool) (now : Int) (a0 : Option Addr) (len0 cap0 : Nat) (z0 : List Int) (a1 a2 a3 : Int) (w : World) (w0 : IsRow .u8 w a0 len0 cap0 z0) (w1 : (Lit.int .u8 a1).wf = true) (w2 : (Lit.int .u8 a2).wf = true) (w3 : (Lit.int .u8 a3).wf = true) (hT : TabAt 0 Lib.deBruijn64tab w) :
    Calls Ybad.prog 3 #[.bool st, .int .i64 now, .slice a0 len0 cap0, .int .u8 a1, .int .u8 a2, .int .u8 a3] w fun e w' => e = .returned (.bool true) ∧ Below w.heap.size w w' := by
  have b1 := bounds_u8 w1
  have b2 := bounds_u8 w2
  have b3 := bounds_u8 w3
  obtain ⟨p1, rfl⟩ := Int.eq_ofNat_of_zero_le b1.1
  obtain ⟨p2, rfl⟩ := Int.eq_ofNat_of_zero_le b2.1
  obtain ⟨p3, rfl⟩ := Int.eq_ofNat_of_zero_le b3.1
  have hw0 : 0 < w.heap.size := World.block_lt_of_cell? _ _ (hT 0 (by decide))
  by_cases hl : len0 ≤ 1024
  · refine law_any st now a0 len0 cap0 (fun i => (z0.getD i 0).toNat) p1 p2 p3 w hl (fun i hi => ?_) (by omega) (by omega) (by omega) hT hw0 (fun i hi => ?_)
    all_goals
      rcases w0 with ⟨_, hl0, _, _⟩ | ⟨x, rfl, hlc, hm, hz, hcell, hwz⟩
      · omega
      have hb := (range_u8 hwz i)
      rw [← List.getD_eq_getElem?_getD] at hb
    · show (z0.getD i 0).toNat ≤ 255
      omega
    · have hc0 := hcell 0 (by omega)
      have hsp := World.cell?_spot hc0
      have hci := hcell i (by omega)
      obtain ⟨b, off, spot⟩ := x
      have hspot : spot = none := by simpa [Addr.add] using hsp
      subst hspot
      have hadd : (⟨b, off, none⟩ : Addr).add i = ⟨b, off + i, none⟩ := by unfold Addr.add; split <;> simp_all
      rw [hadd] at hci
      exact ⟨b, off, rfl, World.block_lt_of_cell? _ _ hci, by rw [hci, Int.toNat_of_nonneg hb.1]⟩
  · refine law_long st now a0 len0 cap0 _ _ _ w (by omega) ?_
    rcases w0 with ⟨_, hl0, _, _⟩ | ⟨x, _, hlc, hm, _⟩
    · omega
    · unfold maxLen at hm; omega

theorem tab_of_laid {W : World} (hL : laidMetH Ybad.prog Rows.lawS5008BQueueRow.laid W) : TabAt 0 Lib.deBruijn64tab W := by
  have hL' : laidMet Ybad.prog [("math/bits.deBruijn64tab", Lib.tabData .u8 (Lib.deBruijn64tab.map fun n : Nat => (n : Int)))] W := hL
  have ht := Lib.tabIs_of_head gT (t := 99) (e := 5) (n := 64) (by kernel_rfl) (by kernel_rfl) Ybad.underlying5 (by kernel_rfl) (by kernel_rfl) hL'
  intro j hj
  rw [ht.cell gT j (by simpa using hj)]
  simp only [List.getD_eq_getElem?_getD, List.getElem?_map]
  rw [List.getElem?_eq_getElem hj]
  rfl

def laidWorld (P : Program) (os : Os) : World :=
  let w0 := World.holding P os ⟨#[], #[], []⟩
  { w0 with heap := w0.heap.modify 0 fun
      | .cells _ t frozen => .cells (Lib.deBruijn64tab.map fun z : Nat => Value.int .u8 (z : Int)).toArray t frozen
      | o => o }
theorem laidWorld_met (os : Os) (args : Array Value) : laidMetH Ybad.prog Rows.lawS5008BQueueRow.laid ((laidWorld Ybad.prog os).forCall (fun _ _ => 0) ⟨#[], args, []⟩).memory :=
  show laidMet Ybad.prog Rows.lawS5008BQueueRow.laid ((laidWorld Ybad.prog os).forCall (fun _ _ => 0) ⟨#[], args, []⟩).memory from laidMet_of_run' 8 (by kernel_rfl) (by kernel_rfl)

set_option maxRecDepth 100000 in
theorem lifted (os : Os) (started : os.Started) (H : Type) (enc : TypeId × Value → H) :
    ReturnsInHanded {} Ybad.checked os 3 .any (fun w args => (Rows.lawS5008BQueueSpec.pre enc Ybad.prog Ybad.f3 Rows.lawS5008BQueueRow.domain false w args ∧ laidMetH Ybad.prog Rows.lawS5008BQueueRow.laid w) ∧ sizedMet enc Ybad.prog Ybad.f3 (OpenSpec.ofChange Rows.lawS5008BQueueSpec) false w args)
      (Rows.lawS5008BQueueSpec.post enc Ybad.prog Ybad.f3 false true false false) := by
  refine returnsInHanded_of_change_and (C := Ybad.checked) (X := fun w _ => laidMetH Ybad.prog Rows.lawS5008BQueueRow.laid w) (fun _ _ _ hh h => h.of_heap hh) own started (by kernel_rfl) Ybad.func3
    (ChangeSpec.witness_at (enc := enc) (C := Ybad.checked) (os := os) (X := fun w _ => laidMetH Ybad.prog Rows.lawS5008BQueueRow.laid w) false (laidWorld Ybad.prog os) #[.bool false, .int .i64 0, .slice none 0 0, .int .u8 0, .int .u8 0, .int .u8 0] 8 rfl (by kernel_rfl) (by kernel_rfl) (by kernel_rfl) (by kernel_rfl) (by kernel_rfl) (laidWorld_met os _)) ?_
  intro W base args ds gs before hval0 hW _ _ hL _
  have hval : ∀ (j : Nat) t v, Ybad.f3.params[j]? = some t → args[j]? = some v → Value.okWide Ybad.prog W .any base t v := hval0
  have hW' := hW
  obtain ⟨p, q, hA0, hV, rfl, hfz, hnd⟩ := hW
  have hA : DataW.TrodAll enc Ybad.prog W 0 (fun _ => true) true Ybad.f3.params.toList args.toList ds p := hA0
  rw [Ybad.params3] at hA hval
  obtain ⟨v0, vs0, d0, ds0, p0, q0, hargs, rfl, rfl, h0, r0⟩ := trodAll_cons hA
  obtain ⟨v1, vs1, d1, ds1, p1, q1, rfl, rfl, rfl, h1, r1⟩ := trodAll_cons r0
  obtain ⟨v2, vs2, d2, ds2, p2, q2, rfl, rfl, rfl, h2, r2⟩ := trodAll_cons r1
  obtain ⟨v3, vs3, d3, ds3, p3, q3, rfl, rfl, rfl, h3, r3⟩ := trodAll_cons r2
  obtain ⟨v4, vs4, d4, ds4, p4, q4, rfl, rfl, rfl, h4, r4⟩ := trodAll_cons r3
  obtain ⟨v5, vs5, d5, ds5, p5, q5, rfl, rfl, rfl, h5, r5⟩ := trodAll_cons r4
  obtain ⟨rfl, rfl, rfl⟩ := trodAll_nil r5
  obtain rfl : args = #[v0, v1, v2, v3, v4, v5] := by cases args; simp_all
  obtain ⟨rfl, rfl⟩ := trodVars_none hV
  obtain ⟨st, rfl, rfl, rfl⟩ := open_bool Ybad.underlying4 (hval 0 4 v0 rfl rfl) h0
  obtain ⟨now, rfl, rfl, rfl, w1⟩ := open_int Ybad.underlying2 (hval 1 2 v1 rfl rfl) h1
  obtain ⟨a0, len0, cap0, rfl⟩ := okWide_slice Ybad.underlying22 (hval 2 22 v2 rfl rfl)
  have k0 := h2
  have lt0 : ∀ x ∈ p2, x.block < W.heap.size := by obtain ⟨m, hm⟩ := k0; exact DataW.trod_lt m _ _ _ hm
  obtain ⟨z0, w0⟩ : ∃ zs, IsRow .u8 W a0 len0 cap0 zs := by
    obtain ⟨fuel, hf⟩ := h2
    rcases open_ints Ybad.underlying22 Ybad.underlying5 (by kernel_rfl) hf with ⟨hcs, _⟩ | ⟨x, l, c, zs, hcs, _, hl, hm, hz, _, hcell, hwz⟩
    · simp [Value.cells] at hcs
      obtain ⟨rfl, rfl, rfl⟩ := hcs
      exact ⟨[], .inl ⟨rfl, rfl, rfl, rfl⟩⟩
    · simp [Value.cells] at hcs
      obtain ⟨rfl, rfl, rfl⟩ := hcs
      exact ⟨zs, .inr ⟨_, rfl, hl, hm, by simpa using hz, hcell, hwz⟩⟩
  obtain ⟨a3, rfl, rfl, rfl, w3⟩ := open_int Ybad.underlying5 (hval 3 5 v3 rfl rfl) h3
  obtain ⟨a4, rfl, rfl, rfl, w4⟩ := open_int Ybad.underlying5 (hval 4 5 v4 rfl rfl) h4
  obtain ⟨a5, rfl, rfl, rfl, w5⟩ := open_int Ybad.underlying5 (hval 5 5 v5 rfl rfl) h5
  clear hA0 hval0
  refine (walk st now a0 len0 cap0 z0 a3 a4 a5 W w0 w3 w4 w5 (tab_of_laid hL)).mono fun e W' ⟨he, bel⟩ => ?_
  subst he
  exact ⟨_, rfl, _, _, _, [], _, [], hW', trodAll_mk1 (shut_bool Ybad.underlying4 _), (trodAll_cons_mk (shut_bool Ybad.underlying4 _) (trodAll_cons_mk (shut_int Ybad.underlying2 w1) (trodAll_cons_mk (Below.trod laidOut (by kernel_rfl) (of_decide_eq_true (by kernel_rfl)) k0 bel lt0) (trodAll_cons_mk (shut_int Ybad.underlying5 w3) (trodAll_cons_mk (shut_int Ybad.underlying5 w4) (trodAll_cons_mk (shut_int Ybad.underlying5 w5) trodAll_mk0)))))), rfl, bel.frame _, fun h => by cases h⟩

theorem row_holds : Rows.LawS5008BQueueSaid :=
  OpenClaim.holds_of_wide 3 Ybad.f3 rfl rfl rfl rfl rfl rfl rfl ⟨rfl, rfl, rfl, rfl, rfl⟩ rfl rfl rfl rfl rfl (by kernel_rfl) Ybad.func3 (by kernel_rfl)
    (of_decide_eq_true (by kernel_rfl)) (by unfold Func.isWrapper; first | (rw [if_pos (by decide +kernel)]; kernel_rfl) | (rw [if_neg (by decide +kernel)]; exact ⟨rfl, rfl⟩))
    (fun os started H enc _ => lifted os started H enc)

theorem noStand (j : Nat) (t : TypeId) (ht : (#[4, 2, 22, 5, 5, 5] : Array TypeId)[j]? = some t) : Ybad.prog.wantsStandIn t = false := by
  have h : t = 4 ∨ t = 2 ∨ t = 22 ∨ t = 5 := by
    rcases j with _ | _ | _ | _ | _ | _ | j <;> simp at ht <;> simp [← ht]
  rcases h with rfl | rfl | rfl | rfl
  · exact (show Ybad.prog.wantsStandIn 4 = false by kernel_rfl)
  · exact (show Ybad.prog.wantsStandIn 2 = false by kernel_rfl)
  · exact (show Ybad.prog.wantsStandIn 22 = false by kernel_rfl)
  · exact (show Ybad.prog.wantsStandIn 5 = false by kernel_rfl)

/-- ████ THE STATEMENT ████ -/
theorem proved : Rows.LawS5008BQueueCardSaid :=
  Claim7.holds_tied_plain_at .later [] [.data] true (true, "93ab64e1c6a9c18be6f825cca13fbbf7eebacbe38c7a1ce48e29ce3d113ea99e") false
    row_holds (fun _ h => by cases h) (by kernel_rfl) (fun _ h => by cases h) lawS5008BQueue_row_tie rfl ⟨rfl, rfl⟩ (by kernel_rfl) rfl
    (fun f fn hf hfn => by
      obtain rfl : f = 3 := Option.some.inj ((show Ybad.prog.funcNamed Rows.lawS5008BQueueRow.func = some 3 by kernel_rfl).symm.trans hf) |>.symm
      obtain rfl : fn = Ybad.f3 := (Option.some.inj (Ybad.func3.symm.trans hfn)).symm
      exact ⟨by kernel_rfl, fun j t ht => noStand j t (by rw [Ybad.params3] at ht; exact ht)⟩)
    (by kernel_rfl)
end Go.Proofs.YbulkcyrqDoor.lawS5008BQueue
