/-
  THE PROOF OF 'Rows.LawS5015CBodyToldSaid': the row over fmt's stops (its listed sentinels read off 'laid'), then the told and tied card.
-/
import Derived.Test.YbulkcyvkFmtCards
import Derived.Test.YbulkcyvkFmtTie
import Derived.Test.YbulkcyvkFmtLawC
import Derived.Deep.SlicePairs
import Derived.ProofKit
import Derived.OpenShut
import Derived.ShutString
import Derived.SizedLaws
import Derived.Stop.JoinedAt
import Derived.Stop.JoinedTold
import Derived.Stop.Joined
import Derived.Stop.LaidErr
import Derived.Stop.LaidTwo
import Derived.LaidLaws
import Derived.Below
import Derived.SevenTiedAt
namespace Go.Proofs.YbulkcyvkFmt.lawS5015CBody
open Go.ChangeShapes Go.WideShapes Go.ChangeAt Go.RowKit Go.Kit
open Go.Extern.Stop Go.Stop Go.Extern
set_option linter.unusedVariables false

theorem own : ownKnob Ybaf.prog.godebug = none := by kernel_rfl
theorem laidOut : laidOutB Ybaf.pinned.checked.prog = true := by kernel_rfl
theorem stops : Ybaf.pinned.checked.prog.stops = ["fmt.Sprintf, its operands' methods called", "fmt.errorf, its operands' methods called"] := by kernel_rfl
theorem stopKnobs : Ybaf.pinned.checked.prog.stopKnobs = [] := by kernel_rfl
theorem quiet (os : Os) : Stop.quiet Ybaf.pinned.checked.prog os := by
  intro k hk
  rw [stopKnobs] at hk
  cases hk
theorem gE : Ybaf.prog.globalNamed "io.EOF" = some 0 := by kernel_rfl
theorem gU : Ybaf.prog.globalNamed "io.ErrUnexpectedEOF" = some 3 := by kernel_rfl
theorem gEType : (Ybaf.prog.globals[0]?).map (·.type) = some 24 := by kernel_rfl
theorem gUType : (Ybaf.prog.globals[3]?).map (·.type) = some 24 := by kernel_rfl
theorem cells83 : Ybaf.prog.cellsOf 83 = 1 := by kernel_rfl
theorem cells9 : Ybaf.prog.cellsOf 9 = 1 := by kernel_rfl
theorem star : "*" ++ "errors.errorString" = "*errors.errorString" := by decide
theorem row81 (u : TypeId) (h : Ybaf.prog.typeName? 3 u = some "*errors.errorString") : u = 81 :=
  typeName_ptr_named (nm := "errors.errorString") (by rw [star]; kernel_rfl) (by kernel_rfl) (by decide) u (by rw [star]; exact h)

def low (P : Program) : Nat := (World.holding P default ⟨#[], #[], []⟩).heap.size
def laidWorld (P : Program) (os : Os) : World :=
  let w0 := World.holding P os ⟨#[.cells #[.string ⟨#[115, 104, 111, 114, 116, 32, 98, 117, 102, 102, 101, 114]⟩] 83, .cells #[.string ⟨#[69, 79, 70]⟩] 83, .cells #[.string ⟨#[117, 110, 101, 120, 112, 101, 99, 116, 101, 100, 32, 69, 79, 70]⟩] 83, .cells #[.string ⟨#[109, 117, 108, 116, 105, 112, 108, 101, 32, 82, 101, 97, 100, 32, 99, 97, 108, 108, 115, 32, 114, 101, 116, 117, 114, 110, 32, 110, 111, 32, 100, 97, 116, 97, 32, 111, 114, 32, 101, 114, 114, 111, 114]⟩] 83, .cells #[.string ⟨#[98, 117, 102, 105, 111, 58, 32, 114, 101, 97, 100, 101, 114, 32, 114, 101, 116, 117, 114, 110, 101, 100, 32, 110, 101, 103, 97, 116, 105, 118, 101, 32, 99, 111, 117, 110, 116, 32, 102, 114, 111, 109, 32, 82, 101, 97, 100]⟩] 83], #[], []⟩
  { w0 with heap := ((((((((((w0.heap).modify 7 fun
      | .cells _ t frozen => .cells #[.iface 81 (.pointer (some ⟨low P + 0, 0, none⟩))] t frozen
      | o => o)).modify 0 fun
      | .cells _ t frozen => .cells #[.iface 81 (.pointer (some ⟨low P + 1, 0, none⟩))] t frozen
      | o => o)).modify 3 fun
      | .cells _ t frozen => .cells #[.iface 81 (.pointer (some ⟨low P + 2, 0, none⟩))] t frozen
      | o => o)).modify 6 fun
      | .cells _ t frozen => .cells #[.iface 81 (.pointer (some ⟨low P + 3, 0, none⟩))] t frozen
      | o => o)).modify 5 fun
      | .cells _ t frozen => .cells #[.iface 81 (.pointer (some ⟨low P + 4, 0, none⟩))] t frozen
      | o => o) }
theorem laid_met (os : Os) (args : Array Value) : laidMet Ybaf.prog Rows.lawS5015CBodyRow.laid ((laidWorld Ybaf.prog os).forCall (fun _ _ => 0) ⟨#[], args, []⟩).memory :=
  laidMet_of_run (ps := [.cell 7 0, .cell (low Ybaf.prog) 0, .cell 0 0, .cell (low Ybaf.prog + 1) 0, .cell 3 0, .cell (low Ybaf.prog + 2) 0, .cell 6 0, .cell (low Ybaf.prog + 3) 0, .cell 5 0, .cell (low Ybaf.prog + 4) 0]) 8 (by kernel_rfl) (by kernel_rfl) (by kernel_rfl)

theorem witness_row (os : Os) {H : Type} (enc : TypeId × Value → H) :
    (OpenSpec.ofChange Rows.lawS5015CBodySpec).preRow enc Ybaf.prog Ybaf.f7 Rows.lawS5015CBodyRow.domain false Rows.lawS5015CBodyRow.laid ((laidWorld Ybaf.prog os).forCall (fun _ _ => 0) ⟨#[], #[.int .u32 0, .slice none 0 0, .bool false, .bool false, .slice none 0 0], []⟩).memory #[.int .u32 0, .slice none 0 0, .bool false, .bool false, .slice none 0 0] := by
  have hw : (DataW.whole enc Ybaf.prog ((laidWorld Ybaf.prog os).forCall (fun _ _ => 0) ⟨#[], #[.int .u32 0, .slice none 0 0, .bool false, .bool false, .slice none 0 0], []⟩).memory Ybaf.f7.params.toList (OpenSpec.ofChange Rows.lawS5015CBodySpec).vars false #[Value.int .u32 0, .slice none 0 0, .bool false, .bool false, .slice none 0 0].toList 8).map (fun x => (x.1, x.2.1)) =
      some ([.lit (.int .u32 0), .nil, .lit (.bool false), .lit (.bool false), .nil], []) := by kernel_rfl
  obtain ⟨⟨x1, x2, x3⟩, hx, hx1⟩ := Option.map_eq_some_iff.1 hw
  simp only [Prod.mk.injEq] at hx1
  obtain ⟨rfl, rfl⟩ := hx1
  exact OpenSpec.preRow_of_cond 8 hx (by kernel_rfl) (fun k hk => by cases hk) (by kernel_rfl) (laid_met os _)

def IsRow (k : IntKind) (w : World) (a : Option Addr) (len cap : Nat) (zs : List Int) : Prop :=
  (a = none ∧ len = 0 ∧ cap = 0 ∧ zs = []) ∨
  ∃ x, a = some x ∧ len ≤ cap ∧ cap ≤ maxLen ∧ zs.length = cap ∧ (∀ i, i < zs.length → w.cell? (x.add i) = some (.int k (zs.getD i 0))) ∧ ∀ n ∈ zs, (Lit.int k n).wf = true

theorem sents {W : World} (hL : laidMet Ybaf.prog Rows.lawS5015CBodyRow.laid W) : ∃ aE aU, Sents W.heap.size aE aU W := by
  obtain ⟨a0, a1, s0, s1, c0, c1, t0, t1, hv0, hv1, hc0, hs0, hz0, hc1, hs1, hz1, hne, hb0, hb1⟩ := laid_sentinels2 hL.tail gE gEType gU gUType Ybaf.underlying24 row81 Ybaf.underlying81 Ybaf.underlying83 rfl rfl Ybaf.underlying9 cells83 cells9
  have g0 : W.cell? ⟨0, 0, none⟩ = some (.iface 81 (.pointer (some a0))) := by simpa using World.var?_cell gE hv0 0
  have g3 : W.cell? ⟨3, 0, none⟩ = some (.iface 81 (.pointer (some a1))) := by simpa using World.var?_cell gU hv1 0
  exact ⟨a0, a1, g0, g3, ⟨c0, t0, hb0⟩, ⟨c1, t1, hb1⟩, World.block_lt_of_cell? _ _ hc0, World.block_lt_of_cell? _ _ hc1, hne, World.block_lt_of_cell? _ _ g3⟩

theorem bounds_u32 {n : Int} (h : (Lit.int .u32 n).wf = true) : 0 ≤ n ∧ n < 4294967296 := by
  have e1 : IntKind.u32.min = 0 := rfl
  have e2 : IntKind.u32.max = 4294967295 := rfl
  simp [Lit.wf, e1, e2] at h
  omega
theorem walk (F : Interp) (left : Int) (a0 : Option Addr) (len0 cap0 : Nat) (z0 : List Int) (big full : Bool) (a4 : Option Addr) (pl pc : Nat) (L Z : Nat → Nat) (w : World) (hF : F.answers w.tape) (w0 : IsRow .u8 w a0 len0 cap0 z0) (w1 : (Lit.int .u32 left).wf = true) (hpr : ∀ i, i < pl → ∃ b o, a4 = some ⟨b, o, none⟩ ∧ b < w.heap.size ∧ w.cell? ⟨b, o + i * 2, none⟩ = some (.int .u16 (L i : Int)) ∧ w.cell? ⟨b, o + i * 2 + 1, none⟩ = some (.int .u32 (Z i : Int))) (hpc : pl ≤ pc ∧ pc ≤ maxLen) (hnil : a4 = none → pl = 0 ∧ pc = 0) (hS : ∃ aE aU, Sents w.heap.size aE aU w) :
    Calls Ybaf.prog 7 #[.int .u32 left, .slice a0 len0 cap0, .bool big, .bool full, .slice a4 pl pc] w fun e w' => e = .returned (.bool true) ∧ Below w.heap.size w w' := by
  have b1 := bounds_u32 w1
  obtain ⟨p1, rfl⟩ := Int.eq_ofNat_of_zero_le b1.1
  obtain ⟨aE, aU, sn⟩ := hS
  have hpm : pc ≤ 9223372036854775807 := hpc.2
  have hlm : len0 ≤ 9223372036854775807 := by
    rcases w0 with ⟨_, hl0, _, _⟩ | ⟨x, _, hlc, hm, _⟩
    · omega
    · unfold maxLen at hm; omega
  by_cases hlong : 1024 < pl ∨ 4096 < len0
  · exact longC _ a0 len0 cap0 big full a4 pl pc w hlong (by omega) hlm
  · have hP : Prior w.heap.size a4 pl pc L Z w := ⟨hpr, ⟨hpc.1, hpc.2, by omega⟩, hnil⟩
    have hd : ∀ i, (z0.getD i 0).toNat < 256 := by
      intro i
      rcases w0 with ⟨_, _, _, rfl⟩ | ⟨x, rfl, hlc, hm, hz, hcell, hwz⟩
      · simp
      · have hb := (range_u8 hwz i)
        rw [← List.getD_eq_getElem?_getD] at hb
        omega
    have hD : Data w.heap.size a0 len0 cap0 (fun i => (z0.getD i 0).toNat) w := by
      rcases w0 with ⟨rfl, rfl, rfl, _⟩ | ⟨x, rfl, hlc, hm, hz, hcell, hwz⟩
      · exact ⟨fun i hi => by omega, by omega, by unfold maxLen; omega, by omega⟩
      · refine ⟨fun i hi => ?_, hlc, hm, by omega⟩
        have hb := (range_u8 hwz i)
        rw [← List.getD_eq_getElem?_getD] at hb
        have hc0 := hcell 0 (by omega)
        have hsp := World.cell?_spot hc0
        have hci := hcell i (by omega)
        obtain ⟨b, off, spot⟩ := x
        have hspot : spot = none := by simpa [Addr.add] using hsp
        subst hspot
        rw [addr_add] at hci
        exact ⟨b, off, rfl, World.block_lt_of_cell? _ _ hci, by rw [hci, Int.toNat_of_nonneg hb.1]⟩
    cases big with
    | false => exact lawC_le F p1 a0 len0 cap0 _ full a4 pl pc L Z aE aU w hF hD hP (by omega) (by omega) hd sn
    | true => exact lawC_be F p1 a0 len0 cap0 _ full a4 pl pc L Z aE aU w hF hD hP (by omega) (by omega) hd sn

/-- A []struct{uint16; uint32} that came in. -/
theorem open_prior {H : Type} {enc : TypeId × Value → H} {W : World} {a : Option Addr} {len cap fuel : Nat} {x : DataW H × List MemPlace} (hf : DataW.trod enc Ybaf.prog W 0 (fun _ => true) true fuel 66 [.slice a len cap] = some x) :
    ∃ L Z : Nat → Nat, (∀ i, i < len → ∃ b o, a = some ⟨b, o, none⟩ ∧ b < W.heap.size ∧ W.cell? ⟨b, o + i * 2, none⟩ = some (.int .u16 (L i : Int)) ∧ W.cell? ⟨b, o + i * 2 + 1, none⟩ = some (.int .u32 (Z i : Int))) ∧ (len ≤ cap ∧ cap ≤ maxLen) ∧ (a = none → len = 0 ∧ cap = 0) := by
  rcases Go.Deep.open_slice_pairs Ybaf.underlying66 Ybaf.underlying68 (by kernel_rfl) rfl rfl (by kernel_rfl) (by kernel_rfl) hf with ⟨hcs, _⟩ | ⟨ad, l, c, m, n, V0, V1, D0, D1, P0, P1, hcs, _, hl, hm, hmm, _, hc⟩
  · simp at hcs
    obtain ⟨rfl, rfl, rfl⟩ := hcs
    exact ⟨fun _ => 0, fun _ => 0, fun i hi => by omega, ⟨by omega, by unfold maxLen; omega⟩, fun _ => ⟨rfl, rfl⟩⟩
  · simp at hcs
    obtain ⟨rfl, rfl, rfl⟩ := hcs
    have hm' : m = cap := by rw [hmm]; rfl
    have each : ∀ i, ∃ q : Nat × Nat, i < len → W.cell? (ad.add (i * 2)) = some (.int .u16 (q.1 : Int)) ∧ W.cell? (ad.add (i * 2 + 1)) = some (.int .u32 (q.2 : Int)) := by
      intro i
      by_cases hi : i < len
      · obtain ⟨c0, c1, t0, t1⟩ := hc i (by omega)
        obtain ⟨n0, e0, _, wf0⟩ := DataW.trod_int Ybaf.underlying35 t0
        obtain ⟨n1, e1, _, wf1⟩ := DataW.trod_int Ybaf.underlying39 t1
        have k0 : 0 ≤ n0 := by
          have q1 : IntKind.u16.min = 0 := rfl
          have q2 : IntKind.u16.max = 65535 := rfl
          simp [Lit.wf, q1, q2] at wf0
          omega
        have k1 : 0 ≤ n1 := by
          have q1 : IntKind.u32.min = 0 := rfl
          have q2 : IntKind.u32.max = 4294967295 := rfl
          simp [Lit.wf, q1, q2] at wf1
          omega
        simp only [List.cons.injEq, and_true] at e0 e1
        refine ⟨(n0.toNat, n1.toNat), fun _ => ⟨?_, ?_⟩⟩
        · rw [c0, e0, Int.toNat_of_nonneg k0]
        · rw [c1, e1, Int.toNat_of_nonneg k1]
      · exact ⟨(0, 0), fun h => absurd h hi⟩
    obtain ⟨q, hq⟩ := Classical.axiomOfChoice each
    refine ⟨fun i => (q i).1, fun i => (q i).2, fun i hi => ?_, ⟨hl, hm⟩, fun h => by cases h⟩
    obtain ⟨g0, g1⟩ := hq i hi
    have hsp := World.cell?_spot (hq 0 (by omega)).1
    obtain ⟨b, off, spot⟩ := ad
    have hspot : spot = none := by simpa [Addr.add] using hsp
    subst hspot
    rw [addr_add] at g0 g1
    exact ⟨b, off, rfl, World.block_lt_of_cell? _ _ g0, g0, by simpa [Nat.add_assoc] using g1⟩

set_option maxRecDepth 100000 in
set_option maxHeartbeats 1000000 in
theorem lifted (os : Os) (started : os.Started) (H : Type) (enc : TypeId × Value → H) :
    ReturnsInTold none {} Ybaf.checked os 7 .any Input.okWide ((OpenSpec.ofChange Rows.lawS5015CBodySpec).preRow enc Ybaf.prog Ybaf.f7 Rows.lawS5015CBodyRow.domain false Rows.lawS5015CBodyRow.laid) (fun F => ((OpenSpec.ofChange Rows.lawS5015CBodySpec).at F).post enc Ybaf.prog Ybaf.f7 false true false false) (aloneAtReturn Ybaf.prog) nothingAlways := by
  refine returnsInTold_of_row (C := Ybaf.checked) (s := OpenSpec.ofChange Rows.lawS5015CBodySpec) (by kernel_rfl) own started (by kernel_rfl) Ybaf.func7
    (OpenSpec.witness_stopped_at (enc := enc) (C := Ybaf.checked) false (laidWorld Ybaf.prog os) #[.int .u32 0, .slice none 0 0, .bool false, .bool false, .slice none 0 0] rfl (by kernel_rfl) (by kernel_rfl) (by kernel_rfl)
      (witness_row os enc)) ?_
  intro F W base args ds gs before _ hF hval0 hW _ _ _ hL0 _
  have hL : laidMet Ybaf.prog Rows.lawS5015CBodyRow.laid W := hL0
  have hval : ∀ (j : Nat) t v, Ybaf.f7.params[j]? = some t → args[j]? = some v → Value.okWide Ybaf.prog W .any base t v := hval0
  have hW' := hW
  obtain ⟨p, q, hA0, hV, rfl, hfz, hnd⟩ := hW
  have hA : DataW.TrodAll enc Ybaf.prog W 0 (fun _ => true) true Ybaf.f7.params.toList args.toList ds p := hA0
  rw [Ybaf.params7] at hA hval
  obtain ⟨v0, vs0, d0, ds0, p0, q0, hargs, rfl, rfl, h0, r0⟩ := trodAll_cons hA
  obtain ⟨v1, vs1, d1, ds1, p1, q1, rfl, rfl, rfl, h1, r1⟩ := trodAll_cons r0
  obtain ⟨v2, vs2, d2, ds2, p2, q2, rfl, rfl, rfl, h2, r2⟩ := trodAll_cons r1
  obtain ⟨v3, vs3, d3, ds3, p3, q3, rfl, rfl, rfl, h3, r3⟩ := trodAll_cons r2
  obtain ⟨v4, vs4, d4, ds4, p4, q4, rfl, rfl, rfl, h4, r4⟩ := trodAll_cons r3
  obtain ⟨rfl, rfl, rfl⟩ := trodAll_nil r4
  obtain rfl : args = #[v0, v1, v2, v3, v4] := by cases args; simp_all
  obtain ⟨rfl, rfl⟩ := trodVars_none hV
  obtain ⟨lf, rfl, rfl, rfl, w1⟩ := open_int Ybaf.underlying39 (hval 0 39 v0 rfl rfl) h0
  obtain ⟨a0, len0, cap0, rfl⟩ := okWide_slice Ybaf.underlying22 (hval 1 22 v1 rfl rfl)
  have k0 := h1
  have lt0 : ∀ x ∈ p1, x.block < W.heap.size := by obtain ⟨m, hm⟩ := k0; exact DataW.trod_lt m _ _ _ hm
  obtain ⟨z0, w0⟩ : ∃ zs, IsRow .u8 W a0 len0 cap0 zs := by
    obtain ⟨fuel, hf⟩ := h1
    rcases open_ints Ybaf.underlying22 Ybaf.underlying5 (by kernel_rfl) hf with ⟨hcs, _⟩ | ⟨x, l, c, zs, hcs, _, hl, hm, hz, _, hcell, hwz⟩
    · simp [Value.cells] at hcs
      obtain ⟨rfl, rfl, rfl⟩ := hcs
      exact ⟨[], .inl ⟨rfl, rfl, rfl, rfl⟩⟩
    · simp [Value.cells] at hcs
      obtain ⟨rfl, rfl, rfl⟩ := hcs
      exact ⟨zs, .inr ⟨_, rfl, hl, hm, by simpa using hz, hcell, hwz⟩⟩
  obtain ⟨big, rfl, rfl, rfl⟩ := open_bool Ybaf.underlying4 (hval 2 4 v2 rfl rfl) h2
  obtain ⟨full, rfl, rfl, rfl⟩ := open_bool Ybaf.underlying4 (hval 3 4 v3 rfl rfl) h3
  obtain ⟨a4, pl, pc, rfl⟩ := okWide_slice Ybaf.underlying66 (hval 4 66 v4 rfl rfl)
  have k4 := h4
  have lt4 : ∀ x ∈ p4, x.block < W.heap.size := by obtain ⟨m, hm⟩ := k4; exact DataW.trod_lt m _ _ _ hm
  obtain ⟨L, Z, hpr, hpc, hnil⟩ : ∃ L Z : Nat → Nat, (∀ i, i < pl → ∃ b o, a4 = some ⟨b, o, none⟩ ∧ b < W.heap.size ∧ W.cell? ⟨b, o + i * 2, none⟩ = some (.int .u16 (L i : Int)) ∧ W.cell? ⟨b, o + i * 2 + 1, none⟩ = some (.int .u32 (Z i : Int))) ∧ (pl ≤ pc ∧ pc ≤ maxLen) ∧ (a4 = none → pl = 0 ∧ pc = 0) := by
    obtain ⟨fuel, hf⟩ := h4
    exact open_prior hf
  clear hA0 hval0
  refine (walk F.told lf a0 len0 cap0 z0 big full a4 pl pc L Z W hF w0 w1 hpr hpc hnil (sents hL)).mono fun e W' ⟨he, bel⟩ => ?_
  subst he
  exact ⟨_, rfl, _, _, _, [], _, [], hW', trodAll_mk1 (shut_bool Ybaf.underlying4 _), (trodAll_cons_mk (shut_int Ybaf.underlying39 w1) (trodAll_cons_mk (Below.trod laidOut (by kernel_rfl) (of_decide_eq_true (by kernel_rfl)) k0 bel lt0) (trodAll_cons_mk (shut_bool Ybaf.underlying4 _) (trodAll_cons_mk (shut_bool Ybaf.underlying4 _) (trodAll_cons_mk (Below.trod laidOut (by kernel_rfl) (of_decide_eq_true (by kernel_rfl)) k4 bel lt4) trodAll_mk0))))), rfl, bel.frame _, fun h => by cases h⟩

/-- ████ THE STATEMENT ████ -/
theorem proved : Rows.LawS5015CBodyToldSaid :=
  Claim7.holds_of_told_tied_any_at .later 7 Ybaf.f7 "fmt.Sprintf, its operands' methods called" ["fmt.errorf, its operands' methods called"] [] (true, "6abc8a5a49da5794575b6a23ae7f647e12332e3f651e64c3195d6b8547c2e14b") true false [.sentinel, .sentinel, .sentinel, .sentinel, .sentinel] true (by kernel_rfl) rfl rfl rfl laidOut (by kernel_rfl) rfl ⟨rfl, rfl, rfl, rfl, rfl, rfl, rfl⟩ rfl rfl (by kernel_rfl) (by kernel_rfl) Ybaf.func7 (by kernel_rfl)
    (of_decide_eq_true (by kernel_rfl)) (of_decide_eq_true (by kernel_rfl)) stops.symm rfl stopKnobs.symm (by kernel_rfl)
    (by kernel_rfl) (by kernel_rfl) (by kernel_rfl) (by kernel_rfl) (by kernel_rfl) (by kernel_rfl) (by kernel_rfl) (by kernel_rfl) (by kernel_rfl) rfl (by kernel_rfl) rfl rfl
    rfl rfl
    rfl (by kernel_rfl) (by kernel_rfl) (by kernel_rfl) (by decide) (by kernel_rfl) lawS5015CBody_row_tie
    (OpenClaim.moreEntering_of (by kernel_rfl) (by kernel_rfl) (by kernel_rfl) (by kernel_rfl) (by kernel_rfl) (by kernel_rfl) (by kernel_rfl) (by kernel_rfl) (by kernel_rfl) (by kernel_rfl))
    ⟨_, WideRow.started_initial, quiet _⟩
    (fun os started _ H enc _ => lifted os started H enc)
end Go.Proofs.YbulkcyvkFmt.lawS5015CBody
