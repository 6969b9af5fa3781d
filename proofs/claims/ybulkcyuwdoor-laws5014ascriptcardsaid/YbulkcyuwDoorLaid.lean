/-
  LawS5014AScript: what came in: the tables read off 'laid'; the script's slice opened.
-/
import Derived.Test.YbulkcyuwDoorLawH
import Derived.Test.YbulkcyuwDoorRows
import Derived.Deep.Slices
import Derived.ChangeSame
import Derived.ChangeArms
import Derived.Lib.LaidTab
namespace Go.Proofs.YbulkcyuwDoor
open Go.RowKit

theorem trod_float {H : Type} {enc : TypeId × Value → H} {P : Program} {w : World} {base : Nat} {sp : Nat → Bool} {held : Bool} {fuel : Nat} {t : TypeId} {k : FloatKind} {cs : List Value} {x : DataW H × List MemPlace}
    (ht : P.underlying t = some (.float k)) (h : DataW.trod enc P w base sp held fuel t cs = some x) : ∃ n, cs = [.float k n] ∧ x = (.lit (.float k n), []) := by
  cases fuel with
  | zero => simp [DataW.trod] at h
  | succ n =>
    unfold DataW.trod at h
    rw [ht] at h
    split at h <;> simp_all

/-- An array of floats that reads as a table holds the table, cell for cell. -/
theorem cells_of_ftab {H : Type} {enc : TypeId × Value → H} {P : Program} {w : World} {base : Nat} {sp : Nat → Bool} {held : Bool} {fuel : Nat} {t e : TypeId} {n : Nat} {cs : List Value} {zs : List Nat} {p : List MemPlace}
    (ht : P.underlying t = some (.array n e)) (he : P.underlying e = some (.float .f64)) (hce : P.cellsOf e = 1) (hct : P.cellsOf t = n)
    (h : DataW.trod enc P w base sp held fuel t cs = some (.agg (zs.map fun z => .lit (.float .f64 z)), p)) : cs = zs.map fun z => Value.float .f64 z := by
  cases fuel with
  | zero => simp [DataW.trod] at h
  | succ fuel =>
    simp only [DataW.trod, ht, hce, hct, Nat.mul_one] at h
    split at h
    · rename_i hl
      obtain ⟨xs, hm, hx⟩ := Option.map_eq_some_iff.1 h
      have hxs : xs.map (·.1) = zs.map fun z => (DataW.lit (.float .f64 z) : DataW H) := by
        have := congrArg Prod.fst hx
        simpa using this
      have hxl : xs.length = n := by simpa using Lib.mapM_length hm
      have hzl : zs.length = n := by
        have := congrArg List.length hxs
        simp at this
        omega
      apply List.ext_getElem?
      intro i
      by_cases hi : i < n
      · obtain ⟨b, hb, hf⟩ := Lib.mapM_at hm i i (by simp [hi])
        obtain ⟨z, hc, rfl⟩ := trod_float he hf
        have h1 : cs[i]? = some (.float .f64 z) := by
          have := congrArg (·[0]?) hc
          simpa [List.getElem?_take, List.getElem?_drop] using this
        have h2 : (xs.map (·.1))[i]? = some (DataW.lit (.float .f64 z) : DataW H) := by simp [hb]
        rw [hxs] at h2
        simp only [List.getElem?_map, Option.map_eq_some_iff, DataW.lit.injEq, Lit.float.injEq, true_and] at h2
        obtain ⟨z', hz', rfl⟩ := h2
        simp [h1, hz']
      · rw [List.getElem?_eq_none (by omega), List.getElem?_eq_none (by simp; omega)]
    · cases h

/-- One listed table, wherever it stands on the list. -/
theorem ftab_at {P : Program} {W : World} : ∀ {l : List (String × DataW Unit)} {ps : List MemPlace}, DataW.LaidVars P W l ps → ∀ {name : String} {zs : List Nat} {g : Nat} {t e : TypeId} {n : Nat},
    P.globalNamed name = some g → (P.globals[g]?).map (·.type) = some t → P.underlying t = some (.array n e) → P.underlying e = some (.float .f64) → P.cellsOf e = 1 → P.cellsOf t = n →
    (name, (.agg (zs.map fun z => .lit (.float .f64 z)) : DataW Unit)) ∈ l → FTab g zs W
  | [], _, _, _, _, _, _, _, _, _, _, _, _, _, _, hm => by cases hm
  | (_, _) :: r, _, h, _, _, _, _, _, _, hg, hty, ht, he, hce, hct, hm => by
    obtain ⟨g', t', cs, fuel, p, q, hg', ht', hvar, hd, hr, _⟩ := h
    rcases List.mem_cons.1 hm with e1 | hm'
    · simp only [Prod.mk.injEq] at e1
      obtain ⟨rfl, rfl⟩ := e1
      obtain rfl := Option.some.inj (hg.symm.trans hg')
      obtain rfl := Option.some.inj (hty.symm.trans ht')
      have hcs := cells_of_ftab ht he hce hct hd
      intro j hj
      have := World.var?_cell hg hvar j
      rw [this, ← Array.getElem?_toList, hcs]
      simp [List.getD, hj]
    · exact ftab_at hr hg hty ht he hce hct hm'

def posTab : List Nat := [4607182418800017408, 5085611494797045271, 5564284217833028085, 6043257259031049059, 6521906365687930162, 7000496887210966211, 7479368607221621995, 7958223736346011545, 8436737289693151036, 8915514139102383430]
def tenTab : List Nat := [4607182418800017408, 4621819117588971520, 4636737291354636288, 4652007308841189376, 4666723172467343360, 4681608360884174848, 4696837146684686336, 4711630319722168320, 4726483295884279808, 4741671816366391296, 4756540486875873280, 4771362005757984768, 4786511204640096256, 4801453603149578240, 4816244402031689728, 4831355200913801216, 4846369599423283200, 4861130398305394688, 4876203697187506176, 4891288408196988160, 4906019910204099648, 4921056587992461136, 4936209963552724370, 4950912855330343670, 4965913770331839924, 4981134201117475473, 4995809153217856309, 5010775143622804482, 5026061058026967681, 5040708725286295329, 5055640609639927018, 5070927765361438756]

theorem tabs_of_laid {W : World} (hL : laidMetH Ybad.prog Rows.lawS5014AScriptRow.laid W) : Tabs W := by
  have hL' : laidMet Ybad.prog Rows.lawS5014AScriptRow.laid W := hL
  obtain ⟨ps, hv, _⟩ := hL'
  refine ⟨⟨?_, ?_⟩, ?_, ?_⟩
  · exact ftab_at hv (name := "math._sin") (zs := sinTab) (g := 4) (t := 85) (e := 32) (n := 6) (by kernel_rfl) (by kernel_rfl) (by kernel_rfl) (by kernel_rfl) (by kernel_rfl) (by kernel_rfl) (List.mem_cons_of_mem _ (List.mem_cons_of_mem _ (List.mem_cons_of_mem _ (List.mem_cons_self ..))))
  · exact ftab_at hv (name := "math._cos") (zs := cosTab) (g := 5) (t := 85) (e := 32) (n := 6) (by kernel_rfl) (by kernel_rfl) (by kernel_rfl) (by kernel_rfl) (by kernel_rfl) (by kernel_rfl) (List.mem_cons_of_mem _ (List.mem_cons_of_mem _ (List.mem_cons_of_mem _ (List.mem_cons_of_mem _ (List.mem_cons_self ..)))))
  · exact ftab_at hv (name := "math.pow10postab32") (zs := posTab) (g := 1) (t := 73) (e := 32) (n := 10) (by kernel_rfl) (by kernel_rfl) (by kernel_rfl) (by kernel_rfl) (by kernel_rfl) (by kernel_rfl) (List.mem_cons_of_mem _ (List.mem_cons_self ..)) 0 (by decide)
  · exact ftab_at hv (name := "math.pow10tab") (zs := tenTab) (g := 2) (t := 74) (e := 32) (n := 32) (by kernel_rfl) (by kernel_rfl) (by kernel_rfl) (by kernel_rfl) (by kernel_rfl) (by kernel_rfl) (List.mem_cons_self ..) 5 (by decide)

theorem nat_u8 {n : Int} (h : (Lit.int .u8 n).wf = true) : ∃ k : Nat, n = (k : Int) ∧ k ≤ 255 := by
  have e1 : IntKind.u8.min = 0 := rfl
  have e2 : IntKind.u8.max = 255 := rfl
  simp [Lit.wf, e1, e2] at h
  exact ⟨n.toNat, by omega, by omega⟩
theorem nat_u32 {n : Int} (h : (Lit.int .u32 n).wf = true) : ∃ k : Nat, n = (k : Int) ∧ k ≤ 4294967295 := by
  have e1 : IntKind.u32.min = 0 := rfl
  have e2 : IntKind.u32.max = 4294967295 := rfl
  simp [Lit.wf, e1, e2] at h
  exact ⟨n.toNat, by omega, by omega⟩

/-- One element's six cells. -/
def At6 (w : World) (a : Addr) (i : Nat) (q : (Nat × Nat × Nat) × (Nat × Nat) × Bool) : Prop :=
  w.cell? (a.add (i * 6 + 0)) = some (.int .u8 (q.1.1 : Int)) ∧ w.cell? (a.add (i * 6 + 1)) = some (.bool q.2.2) ∧ w.cell? (a.add (i * 6 + 2)) = some (.int .u32 (q.2.1.1 : Int)) ∧ w.cell? (a.add (i * 6 + 3)) = some (.int .u32 (q.2.1.2 : Int)) ∧
  w.cell? (a.add (i * 6 + 4)) = some (.int .u8 (q.1.2.1 : Int)) ∧ w.cell? (a.add (i * 6 + 5)) = some (.int .u8 (q.1.2.2 : Int)) ∧ q.1.1 ≤ 255 ∧ q.2.1.1 ≤ 4294967295 ∧ q.2.1.2 ≤ 4294967295 ∧ q.1.2.1 ≤ 255 ∧ q.1.2.2 ≤ 255

theorem cells37 : Ybad.prog.cellsOf 37 = 6 := by kernel_rfl
theorem cells5 : Ybad.prog.cellsOf 5 = 1 := by kernel_rfl
theorem cells4 : Ybad.prog.cellsOf 4 = 1 := by kernel_rfl
theorem cells27 : Ybad.prog.cellsOf 27 = 1 := by kernel_rfl

theorem open_script {H : Type} {enc : TypeId × Value → H} {W : World} {a : Option Addr} {len cap fuel : Nat} {x : DataW H × List MemPlace} (hf : DataW.trod enc Ybad.prog W 0 (fun _ => true) true fuel 22 [.slice a len cap] = some x) :
    (len ≤ cap ∧ cap ≤ maxLen) ∧ ∃ ad la lo sp ck od, Came a len ad la lo sp ck od W := by
  rcases Go.Deep.open_slice Ybad.underlying22 hf with ⟨hcs, _⟩ | ⟨adr, l, c, m, n, D, Pl, hcs, _, hl, hm, hmm, _, hx⟩
  · simp at hcs
    obtain ⟨rfl, rfl, rfl⟩ := hcs
    exact ⟨⟨by omega, by unfold maxLen; omega⟩, fun _ => 0, fun _ => 0, fun _ => 0, fun _ => 0, fun _ => 0, fun _ => false, fun i hi => by omega⟩
  · simp at hcs
    obtain ⟨rfl, rfl, rfl⟩ := hcs
    have hm' : m = cap := by rw [hmm]; rfl
    refine ⟨⟨hl, hm⟩, ?_⟩
    have each : ∀ i, ∃ q : (Nat × Nat × Nat) × (Nat × Nat) × Bool, i < len → At6 W adr i q := by
      intro i
      by_cases hi : i < len
      · obtain ⟨cs', h1, h2⟩ := hx i (by omega)
        rw [cells37] at h1
        obtain ⟨_, hlen, hcell⟩ := World.cells?_some h1
        obtain ⟨xs, k, hk, hxy, _, hxl, hf⟩ := DataW.trod_struct Ybad.underlying37 h2
        match xs, hxl, cs', hlen with
        | [y0, y1, y2, y3, y4, y5], _, [v0, v1, v2, v3, v4, v5], _ =>
          have g0 := hf 0 _ rfl
          have g1 := hf 1 _ rfl
          have g2 := hf 2 _ rfl
          have g3 := hf 3 _ rfl
          have g4 := hf 4 _ rfl
          have g5 := hf 5 _ rfl
          simp [cells5, cells4, cells27] at g0 g1 g2 g3 g4 g5
          obtain ⟨n0, e0, _, f0⟩ := DataW.trod_int Ybad.underlying5 g0
          obtain ⟨n1, e1, _⟩ := DataW.trod_bool Ybad.underlying4 g1
          obtain ⟨n2, e2, _, f2⟩ := DataW.trod_int Ybad.underlying27 g2
          obtain ⟨n3, e3, _, f3⟩ := DataW.trod_int Ybad.underlying27 g3
          obtain ⟨n4, e4, _, f4⟩ := DataW.trod_int Ybad.underlying5 g4
          obtain ⟨n5, e5, _, f5⟩ := DataW.trod_int Ybad.underlying5 g5
          simp only [List.cons.injEq, and_true] at e0 e1 e2 e3 e4 e5
          subst e0 e1 e2 e3 e4 e5
          obtain ⟨k0, rfl, b0⟩ := nat_u8 f0
          obtain ⟨k2, rfl, b2⟩ := nat_u32 f2
          obtain ⟨k3, rfl, b3⟩ := nat_u32 f3
          obtain ⟨k4, rfl, b4⟩ := nat_u8 f4
          obtain ⟨k5, rfl, b5⟩ := nat_u8 f5
          have c0 := hcell 0 (by omega)
          have c1 := hcell 1 (by omega)
          have c2 := hcell 2 (by omega)
          have c3 := hcell 3 (by omega)
          have c4 := hcell 4 (by omega)
          have c5 := hcell 5 (by omega)
          rw [Go.Deep.add_add] at c0 c1 c2 c3 c4 c5
          exact ⟨((k0, k4, k5), (k2, k3), n1), fun _ => ⟨c0, c1, c2, c3, c4, c5, b0, b2, b3, b4, b5⟩⟩
      · exact ⟨((0, 0, 0), (0, 0), false), fun h => absurd h hi⟩
    obtain ⟨q, hq⟩ := Classical.axiomOfChoice each
    refine ⟨fun i => (q i).1.1, fun i => (q i).2.1.1, fun i => (q i).2.1.2, fun i => (q i).1.2.1, fun i => (q i).1.2.2, fun i => (q i).2.2, fun i hi => ?_⟩
    obtain ⟨g0, g1, g2, g3, g4, g5, b0, b2, b3, b4, b5⟩ := hq i hi
    have hsp := World.cell?_spot (hq 0 (by omega)).1
    obtain ⟨b, off, spot⟩ := adr
    have hspot : spot = none := by simpa [Addr.add] using hsp
    subst hspot
    rw [WideShapes.add_plain] at g0 g1 g2 g3 g4 g5
    simp only [← Nat.add_assoc, Nat.add_zero] at g0 g1 g2 g3 g4 g5
    exact ⟨b, off, rfl, World.block_lt_of_cell? _ _ g0, g0, g1, g2, g3, g4, g5, b0, b2, b3, b4, b5⟩

end Go.Proofs.YbulkcyuwDoor
