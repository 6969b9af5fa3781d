/-
  THE PROOF OF 'Rows.LawS5014AScriptCardSaid': the row (its listed tables read off 'laid'), then the card by the given tie.
-/
import Derived.Test.YbulkcyuwDoorCards
import Derived.Test.YbulkcyuwDoorTie
import Derived.Test.YbulkcyuwDoorLaid
import Derived.Test.YbulkcyuwDoorLaw
import Derived.WalkKit
import Derived.ProofKit
import Derived.OpenShut
import Derived.ShutString
import Derived.ChangeSame
import Derived.ChangeVars
import Derived.ChangeOld
import Derived.JoinedOf
import Derived.RowKit
import Derived.LaidLaws
import Derived.LaidHandle
import Derived.Stop.Joined
import Derived.Below
import Derived.SevenTiedAt
namespace Go.Proofs.YbulkcyuwDoor.lawS5014AScript
open Go.ChangeShapes Go.WideShapes Go.ChangeAt Go.RowKit

theorem own : ownKnob Ybad.prog.godebug = none := by kernel_rfl
theorem laidOut : laidOutB Ybad.prog = true := by kernel_rfl

theorem walk (a0 : Option Addr) (len0 cap0 : Nat) (w : World) (_hl : len0 ≤ cap0 ∧ cap0 ≤ maxLen) (hc : ∃ ad la lo sp ck od, Came a0 len0 ad la lo sp ck od w) (hT : Tabs w) :
    Calls Ybad.prog 3 #[.slice a0 len0 cap0] w fun e w' => e = .returned (.bool true) ∧ Below w.heap.size w w' := by
  obtain ⟨ad, la, lo, sp, ck, od, hc⟩ := hc
  by_cases h : len0 ≤ 512
  · exact law_any a0 len0 cap0 ad la lo sp ck od w h hT hc
  · exact law_long a0 len0 cap0 w (by omega)

def fcells (zs : List Nat) : Array Value := (zs.map fun z => Value.float .f64 z).toArray
def negTab : List Nat := [4607182418800017408, 4128101167230658355, 3649340653511681853, 3170840353250979498, 2691949749288605597, 2213095475689254516, 1734519108376626298, 1255832114822727210, 776877706278891331, 298220099847875929, 2024]
def piTab : List Int := [1, 5040379952546458195, 17892431488136887169, 13169980181085364355, 18204331823439776451, 7946843935494350272, 905889640498799673, 18175356263134875261, 15061281708168349961, 15220161563773041794, 8296664548579374057, 4109744767560208502, 4607516669194743839, 16023283104648321598, 15739233654134936430, 11424645774684705882, 16883842788696515318, 8795094592981902804, 15561835991111744016, 12395701187267450711]
def put (h : Array Obj) (g : Nat) (c : Array Value) : Array Obj := h.modify g fun
  | .cells _ t frozen => .cells c t frozen
  | o => o
def laidWorld (P : Program) (os : Os) : World :=
  let w0 := World.holding P os ⟨#[], #[], []⟩
  { w0 with heap := put (put (put (put (put (put w0.heap 2 (fcells tenTab)) 1 (fcells posTab)) 3 (fcells negTab)) 4 (fcells sinTab)) 5 (fcells cosTab)) 6 (piTab.map fun z => Value.int .u64 z).toArray }
theorem laidWorld_met (os : Os) (args : Array Value) : laidMetH Ybad.prog Rows.lawS5014AScriptRow.laid ((laidWorld Ybad.prog os).forCall (fun _ _ => 0) ⟨#[], args, []⟩).memory :=
  show laidMet Ybad.prog Rows.lawS5014AScriptRow.laid ((laidWorld Ybad.prog os).forCall (fun _ _ => 0) ⟨#[], args, []⟩).memory from laidMet_of_run' 8 (by kernel_rfl) (by kernel_rfl)

set_option maxRecDepth 100000 in
theorem lifted (os : Os) (started : os.Started) (H : Type) (enc : TypeId × Value → H) :
    ReturnsInHanded {} Ybad.checked os 3 .any (fun w args => (Rows.lawS5014AScriptSpec.pre enc Ybad.prog Ybad.f3 Rows.lawS5014AScriptRow.domain false w args ∧ laidMetH Ybad.prog Rows.lawS5014AScriptRow.laid w) ∧ sizedMet enc Ybad.prog Ybad.f3 (OpenSpec.ofChange Rows.lawS5014AScriptSpec) false w args)
      (Rows.lawS5014AScriptSpec.post enc Ybad.prog Ybad.f3 false true false false) := by
  refine returnsInHanded_of_change_and (C := Ybad.checked) (X := fun w _ => laidMetH Ybad.prog Rows.lawS5014AScriptRow.laid w) (fun _ _ _ hh h => h.of_heap hh) own started (by kernel_rfl) Ybad.func3
    (ChangeSpec.witness_at (enc := enc) (C := Ybad.checked) (os := os) (X := fun w _ => laidMetH Ybad.prog Rows.lawS5014AScriptRow.laid w) false (laidWorld Ybad.prog os) #[.slice none 0 0] 8 rfl (by kernel_rfl) (by kernel_rfl) (by kernel_rfl) (by kernel_rfl) (by kernel_rfl) (laidWorld_met os _)) ?_
  intro W base args ds gs before hval0 hW _ _ hL _
  have hval : ∀ (j : Nat) t v, Ybad.f3.params[j]? = some t → args[j]? = some v → Value.okWide Ybad.prog W .any base t v := hval0
  have hW' := hW
  obtain ⟨p, q, hA0, hV, rfl, hfz, hnd⟩ := hW
  have hA : DataW.TrodAll enc Ybad.prog W 0 (fun _ => true) true Ybad.f3.params.toList args.toList ds p := hA0
  rw [Ybad.params3] at hA hval
  obtain ⟨v0, vs0, d0, ds0, p0, q0, hargs, rfl, rfl, h0, r0⟩ := trodAll_cons hA
  obtain ⟨rfl, rfl, rfl⟩ := trodAll_nil r0
  obtain rfl : args = #[v0] := by cases args; simp_all
  obtain ⟨rfl, rfl⟩ := trodVars_none hV
  obtain ⟨a0, len0, cap0, rfl⟩ := okWide_slice Ybad.underlying22 (hval 0 22 v0 rfl rfl)
  have k0 := h0
  have lt0 : ∀ x ∈ p0, x.block < W.heap.size := by obtain ⟨m, hm⟩ := k0; exact DataW.trod_lt m _ _ _ hm
  obtain ⟨hl, hc⟩ : (len0 ≤ cap0 ∧ cap0 ≤ maxLen) ∧ ∃ ad la lo sp ck od, Came a0 len0 ad la lo sp ck od W := by
    obtain ⟨fuel, hf⟩ := h0
    exact open_script hf
  clear hA0 hval0
  refine (walk a0 len0 cap0 W hl hc (tabs_of_laid hL)).mono fun e W' ⟨he, bel⟩ => ?_
  subst he
  exact ⟨_, rfl, _, _, _, [], _, [], hW', trodAll_mk1 (shut_bool Ybad.underlying4 _), trodAll_cons_mk (Below.trod laidOut (by kernel_rfl) (of_decide_eq_true (by kernel_rfl)) k0 bel lt0) trodAll_mk0, rfl, bel.frame _, fun h => by cases h⟩

theorem row_holds : Rows.LawS5014AScriptSaid :=
  OpenClaim.holds_of_wide 3 Ybad.f3 rfl rfl rfl rfl rfl rfl rfl ⟨rfl, rfl, rfl, rfl, rfl⟩ rfl rfl rfl rfl rfl (by kernel_rfl) Ybad.func3 (by kernel_rfl)
    (of_decide_eq_true (by kernel_rfl)) (by unfold Func.isWrapper; first | (rw [if_pos (by decide +kernel)]; kernel_rfl) | (rw [if_neg (by decide +kernel)]; exact ⟨rfl, rfl⟩))
    (fun os started H enc _ => lifted os started H enc)

theorem noStand (j : Nat) (t : TypeId) (ht : (#[22] : Array TypeId)[j]? = some t) : Ybad.prog.wantsStandIn t = false := by
  have h : t = 22 := by
    rcases j with _ | j <;> simp at ht <;> simp [← ht]
  subst h
  exact (show Ybad.prog.wantsStandIn 22 = false by kernel_rfl)

/-- ████ THE STATEMENT ████ -/
theorem proved : Rows.LawS5014AScriptCardSaid :=
  Claim7.holds_tied_plain_at .later [] [.data, .data, .data, .data, .data, .data] true (true, "d8d649a2c3c7d2cb8ec3367f3efc8e8ef605ebd4dfe4da44db6313b9b1fcd38a") false
    row_holds (fun _ h => by cases h) (by kernel_rfl) (fun _ h => by cases h) lawS5014AScript_row_tie rfl ⟨rfl, rfl⟩ (by kernel_rfl) rfl
    (fun f fn hf hfn => by
      obtain rfl : f = 3 := Option.some.inj ((show Ybad.prog.funcNamed Rows.lawS5014AScriptRow.func = some 3 by kernel_rfl).symm.trans hf) |>.symm
      obtain rfl : fn = Ybad.f3 := (Option.some.inj (Ybad.func3.symm.trans hfn)).symm
      exact ⟨by kernel_rfl, fun j t ht => noStand j t (by rw [Ybad.params3] at ht; exact ht)⟩)
    (by kernel_rfl)
end Go.Proofs.YbulkcyuwDoor.lawS5014AScript
