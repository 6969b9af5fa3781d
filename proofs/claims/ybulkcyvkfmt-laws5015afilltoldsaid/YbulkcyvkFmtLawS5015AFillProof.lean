/-
  THE PROOF OF 'Rows.LawS5015AFillToldSaid': the row over fmt's stops (its listed sentinels read off 'laid'), then the told and tied card.
-/
import Derived.Test.YbulkcyvkFmtCards
import Derived.Test.YbulkcyvkFmtTie
import Derived.Test.YbulkcyvkFmtLawA
import Derived.ProofKit
import Derived.OpenShut
import Derived.ShutString
import Derived.SizedLaws
import Derived.Stop.JoinedAt
import Derived.Stop.JoinedTold
import Derived.Stop.Joined
import Derived.Stop.LaidErr
import Derived.Stop.LaidTwo
import Derived.LaidLaws
import Derived.Below
import Derived.SevenTiedAt
namespace Go.Proofs.YbulkcyvkFmt.lawS5015AFill
open Go.ChangeShapes Go.WideShapes Go.ChangeAt Go.RowKit Go.Kit
open Go.Extern.Stop Go.Stop Go.Extern
set_option linter.unusedVariables false

theorem own : ownKnob Ybaf.prog.godebug = none := by kernel_rfl
theorem laidOut : laidOutB Ybaf.pinned.checked.prog = true := by kernel_rfl
theorem stops : Ybaf.pinned.checked.prog.stops = ["fmt.Sprintf, its operands' methods called", "fmt.errorf, its operands' methods called"] := by kernel_rfl
theorem stopKnobs : Ybaf.pinned.checked.prog.stopKnobs = [] := by kernel_rfl
theorem quiet (os : Os) : Stop.quiet Ybaf.pinned.checked.prog os := by
  intro k hk
  rw [stopKnobs] at hk
  cases hk
theorem gE : Ybaf.prog.globalNamed "io.EOF" = some 0 := by kernel_rfl
theorem gU : Ybaf.prog.globalNamed "io.ErrUnexpectedEOF" = some 3 := by kernel_rfl
theorem gEType : (Ybaf.prog.globals[0]?).map (·.type) = some 24 := by kernel_rfl
theorem gUType : (Ybaf.prog.globals[3]?).map (·.type) = some 24 := by kernel_rfl
theorem cells83 : Ybaf.prog.cellsOf 83 = 1 := by kernel_rfl
theorem cells9 : Ybaf.prog.cellsOf 9 = 1 := by kernel_rfl
theorem star : "*" ++ "errors.errorString" = "*errors.errorString" := by decide
theorem row81 (u : TypeId) (h : Ybaf.prog.typeName? 3 u = some "*errors.errorString") : u = 81 :=
  typeName_ptr_named (nm := "errors.errorString") (by rw [star]; kernel_rfl) (by kernel_rfl) (by decide) u (by rw [star]; exact h)

def low (P : Program) : Nat := (World.holding P default ⟨#[], #[], []⟩).heap.size
def laidWorld (P : Program) (os : Os) : World :=
  let w0 := World.holding P os ⟨#[.cells #[.string ⟨#[115, 104, 111, 114, 116, 32, 98, 117, 102, 102, 101, 114]⟩] 83, .cells #[.string ⟨#[69, 79, 70]⟩] 83, .cells #[.string ⟨#[117, 110, 101, 120, 112, 101, 99, 116, 101, 100, 32, 69, 79, 70]⟩] 83], #[], []⟩
  { w0 with heap := ((w0.heap.modify 7 fun
      | .cells _ t frozen => .cells #[.iface 81 (.pointer (some ⟨low P, 0, none⟩))] t frozen
      | o => o).modify 0 fun
      | .cells _ t frozen => .cells #[.iface 81 (.pointer (some ⟨low P + 1, 0, none⟩))] t frozen
      | o => o).modify 3 fun
      | .cells _ t frozen => .cells #[.iface 81 (.pointer (some ⟨low P + 2, 0, none⟩))] t frozen
      | o => o }
theorem laid_met (os : Os) (args : Array Value) : laidMet Ybaf.prog Rows.lawS5015AFillRow.laid ((laidWorld Ybaf.prog os).forCall (fun _ _ => 0) ⟨#[], args, []⟩).memory :=
  laidMet_of_run (ps := [.cell 7 0, .cell (low Ybaf.prog) 0, .cell 0 0, .cell (low Ybaf.prog + 1) 0, .cell 3 0, .cell (low Ybaf.prog + 2) 0]) 8 (by kernel_rfl) (by kernel_rfl) (by kernel_rfl)

theorem witness_row (os : Os) {H : Type} (enc : TypeId × Value → H) :
    (OpenSpec.ofChange Rows.lawS5015AFillSpec).preRow enc Ybaf.prog Ybaf.f3 Rows.lawS5015AFillRow.domain false Rows.lawS5015AFillRow.laid ((laidWorld Ybaf.prog os).forCall (fun _ _ => 0) ⟨#[], #[.slice none 0 0, .int .u8 0, .int .u8 0, .bool false], []⟩).memory #[.slice none 0 0, .int .u8 0, .int .u8 0, .bool false] := by
  have hw : (DataW.whole enc Ybaf.prog ((laidWorld Ybaf.prog os).forCall (fun _ _ => 0) ⟨#[], #[.slice none 0 0, .int .u8 0, .int .u8 0, .bool false], []⟩).memory Ybaf.f3.params.toList (OpenSpec.ofChange Rows.lawS5015AFillSpec).vars false #[Value.slice none 0 0, .int .u8 0, .int .u8 0, .bool false].toList 8).map (fun x => (x.1, x.2.1)) =
      some ([.nil, .lit (.int .u8 0), .lit (.int .u8 0), .lit (.bool false)], []) := by kernel_rfl
  obtain ⟨⟨x1, x2, x3⟩, hx, hx1⟩ := Option.map_eq_some_iff.1 hw
  simp only [Prod.mk.injEq] at hx1
  obtain ⟨rfl, rfl⟩ := hx1
  exact OpenSpec.preRow_of_cond 8 hx (by kernel_rfl) (fun k hk => by cases hk) (by kernel_rfl) (laid_met os _)

def IsRow (k : IntKind) (w : World) (a : Option Addr) (len cap : Nat) (zs : List Int) : Prop :=
  (a = none ∧ len = 0 ∧ cap = 0 ∧ zs = []) ∨
  ∃ x, a = some x ∧ len ≤ cap ∧ cap ≤ maxLen ∧ zs.length = cap ∧ (∀ i, i < zs.length → w.cell? (x.add i) = some (.int k (zs.getD i 0))) ∧ ∀ n ∈ zs, (Lit.int k n).wf = true

theorem sents {W : World} (hL : laidMet Ybaf.prog Rows.lawS5015AFillRow.laid W) : ∃ aE aU, Sents W.heap.size aE aU W := by
  obtain ⟨a0, a1, s0, s1, c0, c1, t0, t1, hv0, hv1, hc0, hs0, hz0, hc1, hs1, hz1, hne, hb0, hb1⟩ := laid_sentinels2 hL.tail gE gEType gU gUType Ybaf.underlying24 row81 Ybaf.underlying81 Ybaf.underlying83 rfl rfl Ybaf.underlying9 cells83 cells9
  have g0 : W.cell? ⟨0, 0, none⟩ = some (.iface 81 (.pointer (some a0))) := by simpa using World.var?_cell gE hv0 0
  have g3 : W.cell? ⟨3, 0, none⟩ = some (.iface 81 (.pointer (some a1))) := by simpa using World.var?_cell gU hv1 0
  exact ⟨a0, a1, g0, g3, ⟨c0, t0, hb0⟩, ⟨c1, t1, hb1⟩, World.block_lt_of_cell? _ _ hc0, World.block_lt_of_cell? _ _ hc1, hne, World.block_lt_of_cell? _ _ g3⟩

theorem walk (F : Interp) (a0 : Option Addr) (len0 cap0 : Nat) (z0 : List Int) (a1 a2 : Int) (fail : Bool) (w : World) (hF : F.answers w.tape) (w0 : IsRow .u8 w a0 len0 cap0 z0) (w1 : (Lit.int .u8 a1).wf = true) (w2 : (Lit.int .u8 a2).wf = true) (hS : ∃ aE aU, Sents w.heap.size aE aU w) :
    Calls Ybaf.prog 3 #[.slice a0 len0 cap0, .int .u8 a1, .int .u8 a2, .bool fail] w fun e w' => e = .returned (.bool true) ∧ Below w.heap.size w w' := by
  have b1 := bounds_u8 w1
  have b2 := bounds_u8 w2
  obtain ⟨p1, rfl⟩ := Int.eq_ofNat_of_zero_le b1.1
  obtain ⟨p2, rfl⟩ := Int.eq_ofNat_of_zero_le b2.1
  obtain ⟨aE, aU, sn⟩ := hS
  by_cases hl : len0 ≤ 65536
  · have hD : Data w.heap.size a0 len0 cap0 (fun i => (z0.getD i 0).toNat) w := by
      rcases w0 with ⟨rfl, rfl, rfl, _⟩ | ⟨x, rfl, hlc, hm, hz, hcell, hwz⟩
      · exact ⟨fun i hi => by omega, by omega, by unfold maxLen; omega, by omega⟩
      · refine ⟨fun i hi => ?_, hlc, hm, hl⟩
        have hb := (range_u8 hwz i)
        rw [← List.getD_eq_getElem?_getD] at hb
        have hc0 := hcell 0 (by omega)
        have hsp := World.cell?_spot hc0
        have hci := hcell i (by omega)
        obtain ⟨b, off, spot⟩ := x
        have hspot : spot = none := by simpa [Addr.add] using hsp
        subst hspot
        rw [addr_add] at hci
        exact ⟨b, off, rfl, World.block_lt_of_cell? _ _ hci, by rw [hci, Int.toNat_of_nonneg hb.1]⟩
    by_cases hle : p1 ≤ len0
    · cases fail with
      | false => exact law_full0 a0 len0 cap0 p1 p2 _ aE aU w hD (by omega) (by omega) sn hle
      | true => exact law_full1 a0 len0 cap0 p1 p2 _ aE aU w hD (by omega) (by omega) sn hle
    · cases fail with
      | false => exact law_eof F a0 len0 cap0 p1 p2 _ aE aU w hF hD (by omega) (by omega) sn (by omega)
      | true => exact law_own F a0 len0 cap0 p1 p2 _ aE aU w hF hD (by omega) (by omega) sn (by omega)
  · refine long_ok a0 len0 cap0 _ _ _ w (by omega) ?_
    rcases w0 with ⟨_, hl0, _, _⟩ | ⟨x, _, hlc, hm, _⟩
    · omega
    · unfold maxLen at hm; omega

set_option maxRecDepth 100000 in
set_option maxHeartbeats 1000000 in
theorem lifted (os : Os) (started : os.Started) (H : Type) (enc : TypeId × Value → H) :
    ReturnsInTold none {} Ybaf.checked os 3 .any Input.okWide ((OpenSpec.ofChange Rows.lawS5015AFillSpec).preRow enc Ybaf.prog Ybaf.f3 Rows.lawS5015AFillRow.domain false Rows.lawS5015AFillRow.laid) (fun F => ((OpenSpec.ofChange Rows.lawS5015AFillSpec).at F).post enc Ybaf.prog Ybaf.f3 false true false false) (aloneAtReturn Ybaf.prog) nothingAlways := by
  refine returnsInTold_of_row (C := Ybaf.checked) (s := OpenSpec.ofChange Rows.lawS5015AFillSpec) (by kernel_rfl) own started (by kernel_rfl) Ybaf.func3
    (OpenSpec.witness_stopped_at (enc := enc) (C := Ybaf.checked) false (laidWorld Ybaf.prog os) #[.slice none 0 0, .int .u8 0, .int .u8 0, .bool false] rfl (by kernel_rfl) (by kernel_rfl) (by kernel_rfl)
      (witness_row os enc)) ?_
  intro F W base args ds gs before _ hF hval0 hW _ _ _ hL0 _
  have hL : laidMet Ybaf.prog Rows.lawS5015AFillRow.laid W := hL0
  have hval : ∀ (j : Nat) t v, Ybaf.f3.params[j]? = some t → args[j]? = some v → Value.okWide Ybaf.prog W .any base t v := hval0
  have hW' := hW
  obtain ⟨p, q, hA0, hV, rfl, hfz, hnd⟩ := hW
  have hA : DataW.TrodAll enc Ybaf.prog W 0 (fun _ => true) true Ybaf.f3.params.toList args.toList ds p := hA0
  rw [Ybaf.params3] at hA hval
  obtain ⟨v0, vs0, d0, ds0, p0, q0, hargs, rfl, rfl, h0, r0⟩ := trodAll_cons hA
  obtain ⟨v1, vs1, d1, ds1, p1, q1, rfl, rfl, rfl, h1, r1⟩ := trodAll_cons r0
  obtain ⟨v2, vs2, d2, ds2, p2, q2, rfl, rfl, rfl, h2, r2⟩ := trodAll_cons r1
  obtain ⟨v3, vs3, d3, ds3, p3, q3, rfl, rfl, rfl, h3, r3⟩ := trodAll_cons r2
  obtain ⟨rfl, rfl, rfl⟩ := trodAll_nil r3
  obtain rfl : args = #[v0, v1, v2, v3] := by cases args; simp_all
  obtain ⟨rfl, rfl⟩ := trodVars_none hV
  obtain ⟨a0, len0, cap0, rfl⟩ := okWide_slice Ybaf.underlying22 (hval 0 22 v0 rfl rfl)
  have k0 := h0
  have lt0 : ∀ x ∈ p0, x.block < W.heap.size := by obtain ⟨m, hm⟩ := k0; exact DataW.trod_lt m _ _ _ hm
  obtain ⟨z0, w0⟩ : ∃ zs, IsRow .u8 W a0 len0 cap0 zs := by
    obtain ⟨fuel, hf⟩ := h0
    rcases open_ints Ybaf.underlying22 Ybaf.underlying5 (by kernel_rfl) hf with ⟨hcs, _⟩ | ⟨x, l, c, zs, hcs, _, hl, hm, hz, _, hcell, hwz⟩
    · simp [Value.cells] at hcs
      obtain ⟨rfl, rfl, rfl⟩ := hcs
      exact ⟨[], .inl ⟨rfl, rfl, rfl, rfl⟩⟩
    · simp [Value.cells] at hcs
      obtain ⟨rfl, rfl, rfl⟩ := hcs
      exact ⟨zs, .inr ⟨_, rfl, hl, hm, by simpa using hz, hcell, hwz⟩⟩
  obtain ⟨a1, rfl, rfl, rfl, w1⟩ := open_int Ybaf.underlying5 (hval 1 5 v1 rfl rfl) h1
  obtain ⟨a2, rfl, rfl, rfl, w2⟩ := open_int Ybaf.underlying5 (hval 2 5 v2 rfl rfl) h2
  obtain ⟨fl, rfl, rfl, rfl⟩ := open_bool Ybaf.underlying4 (hval 3 4 v3 rfl rfl) h3
  clear hA0 hval0
  refine (walk F.told a0 len0 cap0 z0 a1 a2 fl W hF w0 w1 w2 (sents hL)).mono fun e W' ⟨he, bel⟩ => ?_
  subst he
  exact ⟨_, rfl, _, _, _, [], _, [], hW', trodAll_mk1 (shut_bool Ybaf.underlying4 _), (trodAll_cons_mk (Below.trod laidOut (by kernel_rfl) (of_decide_eq_true (by kernel_rfl)) k0 bel lt0) (trodAll_cons_mk (shut_int Ybaf.underlying5 w1) (trodAll_cons_mk (shut_int Ybaf.underlying5 w2) (trodAll_cons_mk (shut_bool Ybaf.underlying4 _) trodAll_mk0)))), rfl, bel.frame _, fun h => by cases h⟩

/-- ████ THE STATEMENT ████ -/
theorem proved : Rows.LawS5015AFillToldSaid :=
  Claim7.holds_of_told_tied_any_at .later 3 Ybaf.f3 "fmt.Sprintf, its operands' methods called" ["fmt.errorf, its operands' methods called"] [] (true, "6abc8a5a49da5794575b6a23ae7f647e12332e3f651e64c3195d6b8547c2e14b") true false [.sentinel, .sentinel, .sentinel] true (by kernel_rfl) rfl rfl rfl laidOut (by kernel_rfl) rfl ⟨rfl, rfl, rfl, rfl, rfl, rfl, rfl⟩ rfl rfl (by kernel_rfl) (by kernel_rfl) Ybaf.func3 (by kernel_rfl)
    (of_decide_eq_true (by kernel_rfl)) (of_decide_eq_true (by kernel_rfl)) stops.symm rfl stopKnobs.symm (by kernel_rfl)
    (by kernel_rfl) (by kernel_rfl) (by kernel_rfl) (by kernel_rfl) (by kernel_rfl) (by kernel_rfl) (by kernel_rfl) (by kernel_rfl) (by kernel_rfl) rfl (by kernel_rfl) rfl rfl
    rfl rfl
    rfl (by kernel_rfl) (by kernel_rfl) (by kernel_rfl) (by decide) (by kernel_rfl) lawS5015AFill_row_tie
    (OpenClaim.moreEntering_of (by kernel_rfl) (by kernel_rfl) (by kernel_rfl) (by kernel_rfl) (by kernel_rfl) (by kernel_rfl) (by kernel_rfl) (by kernel_rfl) (by kernel_rfl) (by kernel_rfl))
    ⟨_, WideRow.started_initial, quiet _⟩
    (fun os started _ H enc _ => lifted os started H enc)
end Go.Proofs.YbulkcyvkFmt.lawS5015AFill
