/-
  THE OTHER LAW's WALK (function 7).
-/
import Derived.Test.YbulkcyvkFmtAppL
import Derived.Test.YbulkcyvkFmtAppB
import Derived.Test.YbulkcyvkFmtKept
import Derived.Test.YbulkcyvkFmtLawA
import Derived.Laws.OwnMore
import Derived.Laws.BitsAllLaws
namespace Go.Proofs.YbulkcyvkFmt
open Go.RowKit Go.Extern.Stop Go.Stop Go.Extern
set_option maxRecDepth 100000

/-- The law's second list. -/
structure Prior (B : Nat) (a : Option Addr) (n cap : Nat) (L Z : Nat → Nat) (w : World) : Prop where
  data : ∀ i, i < n → ∃ b o, a = some ⟨b, o, none⟩ ∧ b < B ∧ w.cell? ⟨b, o + i * 2, none⟩ = some (.int .u16 (L i : Int)) ∧ w.cell? ⟨b, o + i * 2 + 1, none⟩ = some (.int .u32 (Z i : Int))
  room : n ≤ cap ∧ cap ≤ maxLen ∧ n ≤ 1024
  nil : a = none → n = 0 ∧ cap = 0
theorem Prior.below {B : Nat} {a : Option Addr} {n cap : Nat} {L Z : Nat → Nat} {w w' : World} (h : Prior B a n cap L Z w) (b : Below B w w') : Prior B a n cap L Z w' :=
  ⟨fun i hi => by obtain ⟨x, o, e, hx, hc, hd⟩ := h.data i hi; exact ⟨x, o, e, hx, (b.cell (p := ⟨x, o + i * 2, none⟩) hx).trans hc, (b.cell (p := ⟨x, o + i * 2 + 1, none⟩) hx).trans hd⟩, h.room, h.nil⟩
theorem Prior.pairs {B : Nat} {a : Option Addr} {n cap : Nat} {L Z : Nat → Nat} {w : World} (h : Prior B a n cap L Z w) : Pairs a n L Z w := fun i hi => by
  obtain ⟨x, o, e, _, hc, hd⟩ := h.data i hi
  exact ⟨x, o, e, hc, hd⟩

/-- The cells of the interfaces, the first i as the second list has them. -/
def Filled (ys : List Value) (i : Nat) (L Z : Nat → Nat) : Prop := ∀ j, j < i → ys[j * 2]? = some (.int .u16 (L j : Int)) ∧ ys[j * 2 + 1]? = some (.int .u32 (Z j : Int))

theorem filled_set {ys : List Value} {i : Nat} {L Z : Nat → Nat} (h : Filled ys i L Z) (hl : i * 2 + 1 < ys.length) : Filled ((ys.set (i * 2) (.int .u16 (L i : Int))).set (i * 2 + 1) (.int .u32 (Z i : Int))) (i + 1) L Z := by
  intro j hj
  by_cases e : j = i
  · subst e
    exact ⟨by rw [List.getElem?_set_ne (by omega), List.getElem?_set_self (by omega)], by rw [List.getElem?_set_self (by simp; omega)]⟩
  · obtain ⟨h1, h2⟩ := h j (by omega)
    exact ⟨by rw [List.getElem?_set_ne (by omega), List.getElem?_set_ne (by omega)]; exact h1, by rw [List.getElem?_set_ne (by omega), List.getElem?_set_ne (by omega)]; exact h2⟩
@[go_sem] theorem assert72 (v : Value) (w : World) : (Instr.typeAssert (.iface 72 v) 85 30 true).run Ybaf.prog w = .ok (.tuple #[.pointer none, .bool false]) w := by kernel_rfl
set_option maxHeartbeats 1000000 in
theorem newReader72 (S : Nat) (w : World) :
    Calls Ybaf.prog 9 #[.iface 72 (.pointer (some ⟨S, 0, none⟩)), .int .i64 16] w fun e w' => e = .returned (.pointer (some ⟨w.heap.size, 0, none⟩)) ∧ (w.alloc (.cells #[.slice (some ⟨w.heap.size + 1, 0, none⟩) 16 16, .iface 72 (.pointer (some ⟨S, 0, none⟩)), .int .i64 0, .int .i64 0, .nilIface, .int .i64 (-1), .int .i64 (-1)] 88)).alloc (.cells (madeCells #[.int .u8 0] 16) 5) = w' := by
  have hmk : ∀ w, (Instr.makeSlice 22 (.int .i64 16) (.int .i64 16)).run Ybaf.prog w = .ok (.slice (some ⟨w.heap.size, 0, none⟩) 16 16) (w.alloc (.cells (madeCells #[.int .u8 0] 16) 5)) := run_make_row' (P := Ybaf.prog) 22 5 (.int .u8 0) 1 Ybaf.underlying22 info5' rfl .i64 .i64 16 (by omega) (by omega)
  go_enter Ybaf.func9, Ybaf.ntmps9
  go_wp2
  go_end0
  go_wp2
  go_ret
  exact ⟨rfl, rfl⟩

theorem four {B : Nat} {w0 : World} (hB : B ≤ w0.heap.size) (o1 o2 o3 o4 : Obj) : Below B w0 ((((w0.alloc o1).alloc o2).alloc o3).alloc o4) :=
  ((((Below.refl B w0).alloc hB o1).alloc (by simp; omega) o2).alloc (by simp; omega) o3).alloc (by simp; omega) o4
theorem cready_of (B : Nat) (w0 : World) (hB : B ≤ w0.heap.size) (aE aU : Addr) (sn : Sents B aE aU w0) (da : Option Addr) (N cap : Nat) (dat : Nat → Nat) (hD : Data B da N cap dat w0)
    (A : Array Value) (hA : A.size = 33) (hA0 : nths A 0 = .pointer (some ⟨w0.heap.size + 1, 0, none⟩)) :
    CReady B (w0.heap.size + 3) (w0.heap.size + 1) (w0.heap.size + 2) w0.heap.size da N cap dat aE aU (nths A)
      ((((w0.alloc (.cells #[.slice da N cap, .int .i64 0] 74)).alloc (.cells #[.slice (some ⟨w0.heap.size + 2, 0, none⟩) 16 16, .iface 72 (.pointer (some ⟨w0.heap.size, 0, none⟩)), .int .i64 0, .int .i64 0, .nilIface, .int .i64 (-1), .int .i64 (-1)] 88)).alloc (.cells (madeCells #[.int .u8 0] 16) 5)).alloc (.cells A 44)) := by
  have rS := (((row_at w0 _ rfl #[.slice da N cap, .int .i64 0] 74 2 rfl).alloc (.cells #[.slice (some ⟨w0.heap.size + 2, 0, none⟩) 16 16, .iface 72 (.pointer (some ⟨w0.heap.size, 0, none⟩)), .int .i64 0, .int .i64 0, .nilIface, .int .i64 (-1), .int .i64 (-1)] 88)).alloc (.cells (madeCells #[.int .u8 0] 16) 5)).alloc (.cells A 44)
  have rR := ((row_at (w0.alloc (.cells #[.slice da N cap, .int .i64 0] 74)) (w0.heap.size + 1) (by simp) #[.slice (some ⟨w0.heap.size + 2, 0, none⟩) 16 16, .iface 72 (.pointer (some ⟨w0.heap.size, 0, none⟩)), .int .i64 0, .int .i64 0, .nilIface, .int .i64 (-1), .int .i64 (-1)] 88 7 rfl).alloc (.cells (madeCells #[.int .u8 0] 16) 5)).alloc (.cells A 44)
  have rb := (row_at ((w0.alloc (.cells #[.slice da N cap, .int .i64 0] 74)).alloc (.cells #[.slice (some ⟨w0.heap.size + 2, 0, none⟩) 16 16, .iface 72 (.pointer (some ⟨w0.heap.size, 0, none⟩)), .int .i64 0, .int .i64 0, .nilIface, .int .i64 (-1), .int .i64 (-1)] 88)) (w0.heap.size + 2) (by simp) (madeCells #[.int .u8 0] 16) 5 16 (size_madeCells _ _)).alloc (.cells A 44)
  have rA := row_at (((w0.alloc (.cells #[.slice da N cap, .int .i64 0] 74)).alloc (.cells #[.slice (some ⟨w0.heap.size + 2, 0, none⟩) 16 16, .iface 72 (.pointer (some ⟨w0.heap.size, 0, none⟩)), .int .i64 0, .int .i64 0, .nilIface, .int .i64 (-1), .int .i64 (-1)] 88)).alloc (.cells (madeCells #[.int .u8 0] 16) 5)) (w0.heap.size + 3) (by simp) A 44 33 hA
  have bel := four hB (.cells #[.slice da N cap, .int .i64 0] 74) (.cells #[.slice (some ⟨w0.heap.size + 2, 0, none⟩) 16 16, .iface 72 (.pointer (some ⟨w0.heap.size, 0, none⟩)), .int .i64 0, .int .i64 0, .nilIface, .int .i64 (-1), .int .i64 (-1)] 88) (.cells (madeCells #[.int .u8 0] 16) 5) (.cells A 44)
  refine ⟨⟨_, rR, rfl, rfl, rfl, rfl, rfl⟩, ⟨rS.congr (fun i hi => ?_), (hD.below bel).data, hD.room, hB⟩, ⟨_, rb⟩, rA, hA0, sn.below bel, by omega, by omega, by omega⟩
  match i, hi with
  | 0, _ => rfl
  | 1, _ => rfl

/-- The interfaces hold what the second list has. -/
theorem own_pairs {w : World} {base n : Nat} {ia : Option Addr} {ic : Nat} {ys : List Value} {pl : Nat} {L Z : Nat → Nat} (h : w.ownsRow base 56 2 (.slice ia n ic) n ys) (hf : Filled ys pl L Z) (hp : pl ≤ n) : Pairs ia pl L Z w := fun i hi => by
  obtain ⟨g, cap', e, _, _⟩ := h.form (by omega)
  simp only [Value.slice.injEq] at e
  obtain ⟨rfl, _, rfl⟩ := e
  obtain ⟨h1, h2⟩ := hf i hi
  exact ⟨g, 0, rfl, by rw [Nat.zero_add, h.cellAt _ (by omega)]; exact h1, by rw [Nat.zero_add, h.cellAt _ (by omega)]; exact h2⟩

theorem own_four {w : World} {base n : Nat} {v : Value} {ys : List Value} (h : w.ownsRow base 56 2 v n ys) (o1 o2 o3 o4 : Obj) : ((((w.alloc o1).alloc o2).alloc o3).alloc o4).ownsRow base 56 2 v n ys := (((h.alloc o1).alloc o2).alloc o3).alloc o4
theorem own_grew {w w' : World} {base n : Nat} {v : Value} {ys : List Value} {X : Nat → Prop} (h : w.ownsRow base 56 2 v n ys) (g : Grew X w w') (hX : ∀ k, v.ownBlock = some k → ¬ X k) : w'.ownsRow base 56 2 v n ys :=
  owns_of_block h (fun k e => g.block k (h.lt k e).2 (hX k e))
/-- What the law reads behind a refused description. -/
theorem refused_facts {B Rd : Nat} {G : Nat → Value} {w3 w6 : World} {o1 o2 o3 o4 : Obj} {base n0 pl : Nat} {ia : Option Addr} {ys : List Value} {L Z : Nat → Nat} (hB : B ≤ w3.heap.size) (hBR : B ≤ Rd) (hrd0 : ((((w3.alloc o1).alloc o2).alloc o3).alloc o4).rowIs Rd 44 33 G) (hown : w3.ownsRow base 56 2 (.slice ia n0 n0) n0 ys) (hf : Filled ys pl L Z) (hp : pl ≤ n0)
    (hg : Grew (fun j => j = Rd) ((((w3.alloc o1).alloc o2).alloc o3).alloc o4) w6) : Pairs ia pl L Z w6 ∧ Below B w3 w6 := by
  have h4 := own_four hown o1 o2 o3 o4
  have hs := (four hB o1 o2 o3 o4).size
  refine ⟨own_pairs (own_grew h4 hg (fun k e e' => owns_ne h4 hrd0 (by decide) (e' ▸ e))) hf hp, (four hB o1 o2 o3 o4).trans (hg.below (by omega) (fun k e => by omega))⟩

theorem cut_facts {B Rd R gb S : Nat} {da : Option Addr} {N cap : Nat} {dat : Nat → Nat} {aE aU : Addr} {G : Nat → Value} {v : Value} {w3 w6 : World} {o1 o2 o3 o4 : Obj} {base n0 pl : Nat} {ia : Option Addr} {ys : List Value} {L Z : Nat → Nat} (hB : B ≤ w3.heap.size) (hc : CReady B Rd R gb S da N cap dat aE aU G ((((w3.alloc o1).alloc o2).alloc o3).alloc o4)) (hown : w3.ownsRow base 56 2 (.slice ia n0 n0) n0 ys) (hf : Filled ys pl L Z) (hp : pl ≤ n0)
    (hg : Grew (fun j => j = Rd ∨ j = R ∨ j = gb ∨ j = S) (((((w3.alloc o1).alloc o2).alloc o3).alloc o4).setCell ⟨Rd, 6, none⟩ v) w6) : Pairs ia pl L Z w6 ∧ Below B w3 w6 := by
  have h4 := own_four hown o1 o2 o3 o4
  have hs := (four hB o1 o2 o3 o4).size
  obtain ⟨F, hr, _⟩ := hc.br.row
  obtain ⟨H, hH⟩ := hc.gbr
  have hold := hc.old
  have hSB := hc.cs.old
  have hg' : Grew (fun j => j = Rd ∨ j = R ∨ j = gb ∨ j = S) ((((w3.alloc o1).alloc o2).alloc o3).alloc o4) w6 := ((Grew.refl _ _).setCell (a := ⟨Rd, 6, none⟩) (.inl rfl) v).trans hg
  refine ⟨own_pairs (own_grew h4 hg' (fun k e e' => ?_)) hf hp, (four hB o1 o2 o3 o4).trans (hg'.below (by omega) (fun k e => by omega))⟩
  rcases e' with e' | e' | e' | e'
  · exact owns_ne h4 hc.rd (by decide) (e' ▸ e)
  · exact owns_ne h4 hr (by decide) (e' ▸ e)
  · exact owns_ne h4 hH (by decide) (e' ▸ e)
  · exact owns_ne h4 hc.cs.row (by decide) (e' ▸ e)

/-- What the law reads once an interface has been appended. -/
structure Fine (B Rd R gb S : Nat) (N : Nat) (dat : Nat → Nat) (G : Nat → Value) (left n0 g cap' : Nat) (lt sl : Int) (L Z : Nat → Nat) (w3 w6 : World) : Prop where
  rd : w6.rowIs Rd 44 33 (upd (gotG G dat left) 5 (.slice (some ⟨g, 0, none⟩) (n0 + 1) cap'))
  br : ∃ c, c = min 16 N ∧ BR R gb S 8 c w6 ∧ ∃ H, w6.rowIs gb 5 16 (putF H 0 (bytes dat 0 c))
  pairs : Pairs (some ⟨g, 0, none⟩) n0 L Z w6
  last : w6.cell? ⟨g, n0 * 2, none⟩ = some (.int .u16 lt) ∧ w6.cell? ⟨g, n0 * 2 + 1, none⟩ = some (.int .u32 sl)
  bel : Below B w3 w6
theorem done_facts {B Rd R gb S : Nat} {da : Option Addr} {N cap : Nat} {dat : Nat → Nat} {aE aU : Addr} {G : Nat → Value} {lt sl : Int} {left : Nat} {w w3 w6 : World} {o1 o2 o3 o4 : Obj} {n0 : Nat} {ia : Option Addr} {ys : List Value} {L Z : Nat → Nat} (hB : B ≤ w3.heap.size) (hc : CReady B Rd R gb S da N cap dat aE aU G ((((w3.alloc o1).alloc o2).alloc o3).alloc o4)) (hown : w3.ownsRow B 56 2 (.slice ia n0 n0) n0 ys) (hf : Filled ys n0 L Z) (_hp : n0 ≤ n0)
    (hd : Done B Rd R gb S N dat G B (.slice ia n0 n0) lt sl left n0 ys ((((w3.alloc o1).alloc o2).alloc o3).alloc o4) w6) (_hD : Data B da N cap dat w) (_hb : Below B w w3) : ∃ g cap', Fine B Rd R gb S N dat G left n0 g cap' lt sl L Z w3 w6 := by
  have h4 := own_four hown o1 o2 o3 o4
  have hs := (four hB o1 o2 o3 o4).size
  have hyl := hown.1
  obtain ⟨v', own', rd'⟩ := hd.all
  obtain ⟨g, cap', rfl, _, _⟩ := own'.form (by omega)
  have hold := hc.old
  have hSB := hc.cs.old
  refine ⟨g, cap', rd', hd.br, own_pairs own' (fun j hj => ?_) (by omega), ⟨?_, ?_⟩, (four hB o1 o2 o3 o4).trans (hd.grew0.below (by omega) (fun k e => ?_))⟩
  · obtain ⟨h1, h2⟩ := hf j hj
    exact ⟨by rw [List.getElem?_append_left (by omega)]; exact h1, by rw [List.getElem?_append_left (by omega)]; exact h2⟩
  · rw [own'.cellAt _ (by omega), List.getElem?_append_right (by omega), show n0 * 2 - ys.length = 0 from by omega]
    rfl
  · rw [own'.cellAt _ (by omega), List.getElem?_append_right (by omega), show n0 * 2 + 1 - ys.length = 1 from by omega]
    rfl
  · rcases e with e | e | e | e | e
    · omega
    · omega
    · omega
    · omega
    · exact (h4.lt k e).1
theorem data_cells {B N cap : Nat} {da : Option Addr} {dat : Nat → Nat} {w w6 : World} (hN : 8 ≤ N) (hD : Data B da N cap dat w) (hb : Below B w w6) : ∃ b o, da = some ⟨b, o, none⟩ ∧ b < B ∧ ∀ i, i < N → w6.cell? ⟨b, o + i, none⟩ = some (.int .u8 (dat i : Int)) := by
  obtain ⟨b, o, rfl, hbB, _⟩ := hD.data 0 (by omega)
  refine ⟨b, o, rfl, hbB, fun i hi => ?_⟩
  obtain ⟨b', o', e, _, hc⟩ := (hD.below hb).data i hi
  simp only [Option.some.injEq, Addr.mk.injEq] at e
  obtain ⟨rfl, rfl, _⟩ := e
  exact hc

theorem or32_le {a b c d : Nat} (ha : a < 256) (hb : b < 256) (hc : c < 256) (hd : d < 256) : bits .or .u32 (bits .or .u32 (bits .or .u32 (a : Int) ((b : Int) * 256)) ((c : Int) * 65536)) ((d : Int) * 16777216) = (a : Int) + (b : Int) * 256 + (c : Int) * 65536 + (d : Int) * 16777216 := by
  simp (disch := omega) only [u32_or8, u32_or16, u32_or24]
theorem fine_byte {R gb S N : Nat} {dat : Nat → Nat} {w6 w' : World} (h : ∃ c, c = min 16 N ∧ BR R gb S 8 c w6 ∧ ∃ H, w6.rowIs gb 5 16 (putF H 0 (bytes dat 0 c))) (hN : 8 < N) (he : ∀ j, j < w6.heap.size → w'.heap[j]? = w6.heap[j]?) :
    Calls Ybaf.prog 22 #[.pointer (some ⟨R, 0, none⟩)] w' fun e w'' => e = .returned (.tuple #[.int .u8 (dat 8 : Int), .nilIface]) ∧ Only (fun j => j = R) w' w'' := by
  obtain ⟨c, hc, ⟨F, hr, hF⟩, H, hH⟩ := h
  have hr' : w'.rowIs R 88 7 F := hr.of_block (he _ hr.lt)
  have hH' : w'.rowIs gb 5 16 (putF H 0 (bytes dat 0 c)) := hH.of_block (he _ hH.lt)
  refine readByte R gb S 8 c (dat 8) _ w' ⟨F, hr', hF⟩ (by omega) (by omega) hH' ?_
  unfold putF
  rw [if_pos ⟨by omega, by rw [bytes_len]; omega⟩, Nat.sub_zero, List.getD_eq_getElem?_getD, bytes_at _ _ _ _ (by omega), Nat.zero_add]
  rfl
theorem new_cell (w : World) (cs : Array Value) (t : TypeId) {s : Nat} (hs : w.heap.size = s) (i : Nat) {v : Value} (hv : cs[i]? = some v := by rfl) : (w.alloc (.cells cs t)).cell? ⟨s, i, none⟩ = some v := by
  subst hs
  have := heap_alloc_new w (.cells cs t)
  simp only [World.cell?, this]
  exact hv
theorem new_frozen (w : World) (cs : Array Value) (t : TypeId) {s : Nat} (hs : w.heap.size = s) (i : Nat) : (w.alloc (.cells cs t)).frozen? ⟨s, i, none⟩ = false := by
  subst hs
  have := heap_alloc_new w (.cells cs t)
  simp only [World.frozen?, this]
  simp
theorem blk2 (w : World) (k : Nat) (o : Obj) (u v : Value) (t : Nat) : ∀ j, j < w.heap.size → ((((w.drewN k).alloc o).setCell ⟨w.heap.size, 0, none⟩ u).setCell ⟨w.heap.size, t, none⟩ v).heap[j]? = w.heap[j]? := fun j hj => by
  exact (Below.heap_setCell _ _ _ _ (Nat.ne_of_lt hj)).trans ((Below.heap_setCell _ _ _ _ (Nat.ne_of_lt hj)).trans (Below.heap_alloc (w.drewN k) o j hj))
theorem bel2 {B R : Nat} {w6 w8 : World} {k : Nat} {o : Obj} {u v : Value} {t : Nat} (hB : B ≤ w6.heap.size) (h : Only (fun j => j = R) ((((w6.drewN k).alloc o).setCell ⟨w6.heap.size, 0, none⟩ u).setCell ⟨w6.heap.size, t, none⟩ v) w8) (hR : B ≤ R) : Below B w6 w8 := by
  have hb : Below B w6 (w6.drewN k) := ⟨rfl, rfl, rfl, Nat.le_refl _, fun _ _ => rfl⟩
  exact (((hb.alloc hB o).setCell (p := ⟨w6.heap.size, 0, none⟩) hB u).setCell (p := ⟨w6.heap.size, t, none⟩) hB v).trans (h.below (fun k e => by omega))

theorem or16_be {a b : Nat} (ha : a < 256) (hb : b < 256) : bits .or .u16 ((a : Int) * 256) (b : Int) = (b : Int) + (a : Int) * 256 := by
  have e : ((a : Int) * 256) = ((a * 256 : Nat) : Int) := by simp
  rw [e, u16_or_nat (a * 256) b (by omega) (by omega), Nat.or_comm, ← u16_or_nat b (a * 256) (by omega) (by omega), ← e]
  exact u16_or8 (y := (b : Int)) (x := (a : Int) * 256) (by omega) (by omega) (by omega) (by omega) (by omega)
theorem or32_lt {x y : Nat} (hx : x < 4294967296) (hy : y < 4294967296) : x ||| y < 4294967296 := by
  have h := Nat.or_lt_two_pow (n := 32) (x := x) (y := y) (by simpa using hx) (by simpa using hy)
  simpa using h
theorem or_turn (a b c d : Nat) : a ||| b ||| c ||| d = d ||| c ||| b ||| a := by
  rw [Nat.or_comm (a ||| b ||| c) d, Nat.or_comm (a ||| b) c, Nat.or_comm a b]
  simp only [Nat.or_assoc]
theorem or32_be {a b c d : Nat} (ha : a < 256) (hb : b < 256) (hc : c < 256) (hd : d < 256) : bits .or .u32 (bits .or .u32 (bits .or .u32 ((a : Int) * 16777216) ((b : Int) * 65536)) ((c : Int) * 256)) (d : Int) = (d : Int) + (c : Int) * 256 + (b : Int) * 65536 + (a : Int) * 16777216 := by
  rw [← or32_le hd hc hb ha]
  have ea : ((a : Int) * 16777216) = ((a * 16777216 : Nat) : Int) := by simp
  have eb : ((b : Int) * 65536) = ((b * 65536 : Nat) : Int) := by simp
  have ec : ((c : Int) * 256) = ((c * 256 : Nat) : Int) := by simp
  have la : a * 16777216 < 4294967296 := Nat.lt_of_le_of_lt (Nat.mul_le_mul_right 16777216 (show a ≤ 255 by omega)) (by decide)
  have lb : b * 65536 < 4294967296 := Nat.lt_of_le_of_lt (Nat.mul_le_mul_right 65536 (show b ≤ 255 by omega)) (by decide)
  have lc : c * 256 < 4294967296 := Nat.lt_of_le_of_lt (Nat.mul_le_mul_right 256 (show c ≤ 255 by omega)) (by decide)
  have ld : d < 4294967296 := by omega
  rw [ea, eb, ec, u32_or_nat _ _ la lb, u32_or_nat _ _ (or32_lt la lb) lc, u32_or_nat _ _ (or32_lt (or32_lt la lb) lc) ld, u32_or_nat _ _ ld lc, u32_or_nat _ _ (or32_lt ld lc) lb, u32_or_nat _ _ (or32_lt (or32_lt ld lc) lb) la, or_turn]

set_option maxHeartbeats 4000000 in
theorem lawC_le (F : Interp) (left : Nat) (a1 : Option Addr) (N cap1 : Nat) (dat : Nat → Nat) (full : Bool) (a4 : Option Addr) (pl pc : Nat) (L Z : Nat → Nat) (aE aU : Addr) (w : World) (hF : F.answers w.tape) (hD : Data w.heap.size a1 N cap1 dat w) (hP : Prior w.heap.size a4 pl pc L Z w) (hleft : left < 4294967296) (hN4 : N ≤ 4096) (hd : ∀ i, dat i < 256) (sn : Sents w.heap.size aE aU w) :
    Calls Ybaf.prog 7 #[.int .u32 left, .slice a1 N cap1, .bool false, .bool full, .slice a4 pl pc] w fun e w' => e = .returned (.bool true) ∧ Below w.heap.size w w' := by
  have hN := hD.room.2.2
  have hNc := hD.room.1
  have hcm : cap1 ≤ 9223372036854775807 := hD.room.2.1
  have hpl := hP.room.2.2
  have hpc := hP.room.1
  have hpm : pc ≤ 9223372036854775807 := hP.room.2.1
  obtain ⟨i0, hi0, hz0, hz1, hz2⟩ := info_parts info56
  have HD := hide hD
  have HP := hide hP
  have HSN := hide sn
  have HF := hide hF
  have HDD := hide hd
  clear hD hP sn hF hd
  go_enter Ybaf.func7, Ybaf.ntmps7
  go_upto_if 33 with fail
  go_cut [11] from 33 to 39 (fun s wx => ∃ ia n0 ys, s = .slice ia n0 n0 ∧ wx.ownsRow w.heap.size 56 2 (.slice ia n0 n0) n0 ys ∧ Grew (fun _ => False) w wx ∧ pl ≤ n0 ∧ n0 ≤ 65536 ∧ (full = true → n0 = 65536) ∧ (full = false → n0 = pl))
  case first =>
    cases full with
    | true =>
      obtain ⟨wm, hmk, hown, hgr⟩ := run_makeSlice_full (P := Ybaf.prog) w w.heap.size 38 56 i0 _ 2 Ybaf.underlying38 hi0 hz0 hz1 .i64 .i64 65536 (by omega) (by rw [hz2]; omega) (by unfold maxLen; omega) (Nat.le_refl _)
      have hmk' : (Instr.makeSlice 38 (.int .i64 65536) (.int .i64 65536)).run Ybaf.prog w = .ok (.slice (some ⟨w.heap.size, 0, none⟩) 65536 65536) wm := hmk
      have HO := hide hown
      have HG := hide hgr
      clear hmk hown hgr
      go_wp2_with fail
      go_meet
      case rel => exact ⟨_, _, _, rfl, unhide HO, ⟨(unhide HG).os, (unhide HG).tape, (unhide HG).output, (unhide HG).size, fun k hk _ => (unhide HG).block k hk (by simp)⟩, by omega, by omega, fun _ => rfl, fun h => by cases h⟩
    | false =>
      cases a4 with
      | none =>
        obtain ⟨rfl, rfl⟩ := (unhide HP).nil rfl
        have hn1 : ∀ w, (binOp .neq 66 (.slice none 0 0) (.slice none 0 0)).run Ybaf.prog w = .ok (.bool false) w := fun w => by kernel_rfl
        go_wp2_with fail
        go_meet
        case rel => exact ⟨_, _, _, rfl, World.ownsRow_nil _ _ _ _, Grew.refl _ _, by omega, by omega, (fun h => by cases h), fun _ => rfl⟩
      | some x =>
        obtain ⟨wm, hmk, hown, hgr⟩ := run_makeSlice_full (P := Ybaf.prog) w w.heap.size 38 56 i0 _ 2 Ybaf.underlying38 hi0 hz0 hz1 .i64 .i64 pl (by omega) (by rw [hz2]; omega) (by unfold maxLen; omega) (Nat.le_refl _)
        have HO := hide hown
        have HG := hide hgr
        clear hown hgr
        have hn1 : ∀ w, (binOp .neq 66 (.slice (some x) pl pc) (.slice none 0 0)).run Ybaf.prog w = .ok (.bool true) w := fun w => by kernel_rfl
        go_wp2_with fail
        go_meet
        case rel => exact ⟨_, _, _, rfl, unhide HO, ⟨(unhide HG).os, (unhide HG).tape, (unhide HG).output, (unhide HG).size, fun k hk _ => (unhide HG).block k hk (by simp)⟩, by omega, by omega, (fun h => by cases h), fun _ => rfl⟩
  case rest =>
    obtain ⟨ia, n0, ys0, rfl, hown0, hgr0, hpn, hn0, hfu, hnf⟩ := hcut
    obtain ⟨w1, hw1⟩ : ∃ w1, w1 = wc := ⟨_, rfl⟩
    subst hw1
    have HO0 := hide hown0
    have HG0 := hide hgr0
    clear hown0 hgr0
    go_wp2_with fail
    go_loopw [12] (fun s wr => ∃ i ys, i ≤ pl ∧ s = .int .i64 (i : Nat) ∧ wr.ownsRow w.heap.size 56 2 (.slice ia n0 n0) n0 ys ∧ Filled ys i L Z ∧ Grew (fun k => (Value.slice ia n0 n0).ownBlock = some k) w wr) (fun s _ => pl - (intOf s).toNat)
    case atStart => exact ⟨0, ys0, by omega, rfl, unhide HO0, fun j hj => by omega, (unhide HG0).mono (fun k e => e.elim)⟩
    case round =>
      obtain ⟨i, ys, hi, rfl, hown, hfil, hgr⟩ := hrel
      by_cases hlt : i < pl
      · obtain ⟨b, o, rfl, hbB, c0, c1⟩ := (unhide HP).data i hlt
        have hbel : Below w.heap.size w wr := hgr.below (Nat.le_refl _) (fun k e => (hown.lt k e).1)
        have c0 := (hbel.cell (p := ⟨b, o + i * 2, none⟩) hbB).trans c0
        have c1 := (hbel.cell (p := ⟨b, o + i * 2 + 1, none⟩) hbB).trans c1
        obtain ⟨g, cap', e, hgb, hglt⟩ := hown.form (by omega)
        simp only [Value.slice.injEq] at e
        obtain ⟨rfl, _, rfl⟩ := e
        have hyl := hown.1
        have d0 : wr.cell? ⟨g, i * 2, none⟩ = some (ys[i * 2]'(by omega)) := by rw [hown.cellAt (i * 2) (by omega)]; exact List.getElem?_eq_getElem (by omega)
        have d1 : wr.cell? ⟨g, i * 2 + 1, none⟩ = some (ys[i * 2 + 1]'(by omega)) := by rw [hown.cellAt (i * 2 + 1) (by omega)]; exact List.getElem?_eq_getElem (by omega)
        generalize ys[i * 2]'(by omega) = u0 at d0
        generalize ys[i * 2 + 1]'(by omega) = u1 at d1
        have f0 := hown.frozenAt (i * 2)
        have f1 := hown.frozenAt (i * 2 + 1)
        have hbg : b ≠ g := by omega
        have hgb' : g ≠ b := Ne.symm hbg
        have t1 : (i : Int) < (pl : Int) := by omega
        have t2 : (i : Int) < (n0 : Int) := by omega
        have t3 : (0 : Int) ≤ (i : Int) := by omega
        have HOW := hide hown
        have HFI := hide hfil
        have HGR := hide hgr
        have HYL := hide hyl
        clear hown hfil hgr hbel hyl
        go_wp2_with fail
        go_region
        go_wp2_with fail
        go_roundw
        case rel =>
          have s1 := (unhide HOW).stored (i * 2) (.int .u16 (L i : Int))
          have s2 := s1.1.stored (i * 2 + 1) (.int .u32 (Z i : Int))
          refine ⟨i + 1, _, by omega, by simp, s2.1.drew, filled_set (unhide HFI) (by have := unhide HYL; omega), ?_⟩
          exact (((unhide HGR).setCell (a := ⟨g, i * 2, none⟩) rfl _).setCell (a := ⟨g, i * 2 + 1, none⟩) rfl _).drew
        case measure => simp [intOf]; omega
      · have hie : i = pl := by omega
        subst hie
        obtain ⟨w3, hw3⟩ : ∃ w3, w3 = wr := ⟨_, rfl⟩
        subst hw3
        have HO := hide hown
        have HFI := hide hfil
        have HG := hide hgr
        clear hown hfil hgr HO0 HG0
        have hb3 : Below w.heap.size w w3 := (unhide HG).below (Nat.le_refl _) (fun k e => ((unhide HO).lt k e).1)
        have hsz3 := hb3.size
        have HB3 := hide hb3
        have HF3 : Hid (F.answers w3.tape) := by show F.answers w3.tape; rw [hb3.tape]; exact unhide HF
        have HCR := hide (fun A hA hA0 => cready_of w.heap.size w3 hsz3 aE aU ((unhide HSN).below hb3) a1 N cap1 dat ((unhide HD).below hb3) A hA hA0)
        obtain ⟨ic0, hic, hcmp⟩ := Option.map_eq_some_iff.1 Ybaf.isComp
        obtain ⟨jc0, hjc, hjs⟩ := Option.map_eq_some_iff.1 Ybaf.isSize
        have heq := fun w a => run_eql_iface_ptr_same (P := Ybaf.prog) w a Ybaf.underlying24 Ybaf.underlying81 hic hcmp hjc
        clear hb3 hic hcmp hjc hjs
        by_cases hl8 : left < 8
        · go_wp2_with (first | (go_at_call 9; refine (newReader72 _ _).mono ?_; rintro e w4 ⟨rfl, rfl⟩))
          refine (desc_short F left left (by exact unhide HF3) (by exact (unhide HCR _ rfl rfl).rd) rfl rfl hl8).mono ?_
          rintro e w6 ⟨p, rfl, hrd, hg⟩
          have hfx := refused_facts hsz3 (by omega) (unhide HCR _ rfl rfl).rd (unhide HO) (unhide HFI) hpn hg
          have hbw := (unhide HB3).trans hfx.2
          have HK := hide (ckept ia a4 n0 n0 i pc n0 L Z w6 hfx.1 ((unhide HP).below hbw).pairs (Nat.le_refl _) hpn (by omega))
          have y32 : w6.cell? ⟨w3.heap.size + 3, 32, none⟩ = some (.iface 81 (.pointer (some ⟨p, 0, none⟩))) := by rw [hrd.cell (by omega)]; rfl
          have y6 : w6.cell? ⟨w3.heap.size + 3, 6, none⟩ = some (.int .u32 (left : Int)) := by rw [hrd.cell (by omega)]; rfl
          have y5 : w6.cell? ⟨w3.heap.size + 3, 5, none⟩ = some (.slice ia n0 n0) := by rw [hrd.cell (by omega)]; rfl
          have HBW := hide hbw
          clear hfx hbw hrd hg
          go_wp2_with (first | (go_at_call 21; refine (unhide HK).mono ?_; rintro e w7 ⟨rfl, mk, rfl⟩))
          go_ret
          exact ⟨rfl, (unhide HBW).os, (unhide HBW).tape, (unhide HBW).output, (unhide HBW).size, (unhide HBW).block⟩
        · have hl8' : 8 ≤ left := by omega
          cases full with
          | true =>
            obtain rfl : n0 = 65536 := hfu rfl
            go_wp2_with (first | (go_at_call 9; refine (newReader72 _ _).mono ?_; rintro e w4 ⟨rfl, rfl⟩))
            refine (desc_many F left left ia 65536 (by exact unhide HF3) (by exact (unhide HCR _ rfl rfl).rd) rfl rfl rfl hl8').mono ?_
            rintro e w6 ⟨p, rfl, hrd, hg⟩
            have hfx := refused_facts hsz3 (by omega) (unhide HCR _ rfl rfl).rd (unhide HO) (unhide HFI) hpn hg
            have hbw := (unhide HB3).trans hfx.2
            have HK := hide (ckept ia a4 65536 65536 i pc 65536 L Z w6 hfx.1 ((unhide HP).below hbw).pairs (Nat.le_refl _) hpn (by omega))
            have y32 : w6.cell? ⟨w3.heap.size + 3, 32, none⟩ = some (.iface 81 (.pointer (some ⟨p, 0, none⟩))) := by rw [hrd.cell (by omega)]; rfl
            have y6 : w6.cell? ⟨w3.heap.size + 3, 6, none⟩ = some (.int .u32 (left : Int)) := by rw [hrd.cell (by omega)]; rfl
            have y5 : w6.cell? ⟨w3.heap.size + 3, 5, none⟩ = some (.slice ia 65536 65536) := by rw [hrd.cell (by omega)]; rfl
            have HBW := hide hbw
            clear hfx hbw hrd hg
            go_wp2_with (first | (go_at_call 21; refine (unhide HK).mono ?_; rintro e w7 ⟨rfl, mk, rfl⟩))
            go_ret
            exact ⟨rfl, (unhide HBW).os, (unhide HBW).tape, (unhide HBW).output, (unhide HBW).size, (unhide HBW).block⟩
          | false =>
            obtain rfl : n0 = i := hnf rfl
            by_cases hN8 : N < 8
            · go_wp2_with (first | (go_at_call 9; refine (newReader72 _ _).mono ?_; rintro e w4 ⟨rfl, rfl⟩))
              refine ((unhide HCR _ rfl rfl).desc_cut F (by exact unhide HF3) rfl left left ia n0 n0 rfl rfl (by omega) hl8' hleft hN8).mono ?_
              rintro e w6 ⟨p, rfl, ⟨cs, hcs, hrd⟩, hg⟩
              have hfx := cut_facts hsz3 (unhide HCR _ rfl rfl) (unhide HO) (unhide HFI) hpn hg
              have hbw := (unhide HB3).trans hfx.2
              have hk : ∀ n, Calls Ybaf.prog 21 #[.slice ia n0 n0, .slice a4 n0 pc, .int .i64 n0] (w6.drewN n) fun e w' => e = .returned (.bool true) ∧ ∃ m, w' = (w6.drewN n).drewN m := fun n => ckept ia a4 n0 n0 n0 pc n0 L Z (w6.drewN n) (fun i hi => hfx.1 i hi) (fun i hi => ((unhide HP).below hbw).pairs i hi) (Nat.le_refl _) hpn (by omega)
              have z0 := ((unhide HSN).below hbw).g0
              have y32 : w6.cell? ⟨w3.heap.size + 3, 32, none⟩ = some (.iface 81 (.pointer (some aE))) := by rw [hrd.cell (by omega)]; rfl
              have y6 : w6.cell? ⟨w3.heap.size + 3, 6, none⟩ = some (.int .u32 ((left : Int) - 8)) := by rw [hrd.cell (by omega)]; simp [upd, putF]
              have y5 : w6.cell? ⟨w3.heap.size + 3, 5, none⟩ = some (.slice ia n0 n0) := by rw [hrd.cell (by omega)]; simp [upd, putF, nths]
              have HK := hide hk
              have HBW := hide hbw
              have hlN : (N : Int) < 8 := by omega
              clear hfx hbw hrd hg hk
              go_wp2_with fail
              go_quiet (first | (go_at_call 21; exact Calls.quiet_of (unhide HK _)))
              go_wp2_with fail
              go_ret
              exact ⟨rfl, (unhide HBW).os, (unhide HBW).tape, (unhide HBW).output, (unhide HBW).size, (unhide HBW).block⟩
            · have hN8' : 8 ≤ N := by omega
              go_wp2_with (first | (go_at_call 9; refine (newReader72 _ _).mono ?_; rintro e w4 ⟨rfl, rfl⟩))
              refine ((unhide HCR _ rfl rfl).desc_le left left ia n0 n0 w.heap.size ys rfl rfl rfl (by omega) hl8' hleft hN8' (by exact own_four (unhide HO) _ _ _ _) (by have := (four hsz3 (.cells #[] 0) (.cells #[] 0) (.cells #[] 0) (.cells #[] 0)).size; simp; omega) (unhide HDD)).mono ?_
              rintro e w6 ⟨rfl, hdn⟩
              obtain ⟨g', cap', hfin⟩ := done_facts hsz3 (unhide HCR _ rfl rfl) (unhide HO) (unhide HFI) hpn hdn (unhide HD) (unhide HB3)
              have y32 : w6.cell? ⟨w3.heap.size + 3, 32, none⟩ = some .nilIface := by rw [hfin.rd.cell (by omega)]; simp [upd, gotG, putF, bytes_len, nths]
              have y6 : w6.cell? ⟨w3.heap.size + 3, 6, none⟩ = some (.int .u32 ((left : Int) - 8)) := by rw [hfin.rd.cell (by omega)]; simp [upd, gotG, putF]
              have y5 : w6.cell? ⟨w3.heap.size + 3, 5, none⟩ = some (.slice (some ⟨g', 0, none⟩) (n0 + 1) cap') := by rw [hfin.rd.cell (by omega)]; simp [upd]
              have yr : w6.cell? ⟨w3.heap.size + 3, 0, none⟩ = some (.pointer (some ⟨w3.heap.size + 1, 0, none⟩)) := by rw [hfin.rd.cell (by omega)]; simp [upd, gotG, putF, nths]
              have e0 := hfin.last.1
              have e1 := hfin.last.2
              have HK := hide (ckept (some ⟨g', 0, none⟩) a4 (n0 + 1) cap' n0 pc n0 L Z)
              obtain ⟨b, o, rfl, hbB, hdc⟩ := data_cells hN8' (unhide HD) ((unhide HB3).trans hfin.bel)
              have q0 : w6.cell? ⟨b, o, none⟩ = some (.int .u8 (dat 0 : Int)) := hdc 0 (by omega)
              have q1 := hdc 1 (by omega)
              have q4 := hdc 4 (by omega)
              have q5 := hdc 5 (by omega)
              have q6 := hdc 6 (by omega)
              have q7 := hdc 7 (by omega)
              have d0 := unhide HDD 0
              have d1 := unhide HDD 1
              have d4 := unhide HDD 4
              have d5 := unhide HDD 5
              have d6 := unhide HDD 6
              have d7 := unhide HDD 7
              have t0 : (7 : Int) < (N : Int) := by omega
              have t1 : (6 : Int) < (N : Int) := by omega
              have t2 : (5 : Int) < (N : Int) := by omega
              have t3 : (4 : Int) < (N : Int) := by omega
              have t4 : (1 : Int) < (N : Int) := by omega
              have t5 : (0 : Int) < (N : Int) := by omega
              have h16 := u16_or8 (y := (dat 0 : Int)) (x := (dat 1 : Int) * 256) (by omega) (by omega) (by omega) (by omega) (by omega)
              have h32 := or32_le d4 d5 d6 d7
              revert e0 e1 h16 h32
              generalize (dat 0 : Int) + (dat 1 : Int) * 256 = lt
              generalize (dat 4 : Int) + (dat 5 : Int) * 256 + (dat 6 : Int) * 65536 + (dat 7 : Int) * 16777216 = sl
              intro e0 e1 h16 h32
              have HPP := hide ((unhide HP).below ((unhide HB3).trans hfin.bel)).pairs
              have HPG := hide hfin.pairs
              have HBF := hide ((unhide HB3).trans hfin.bel)
              have HRB : Hid (8 < N → ∀ (w' : World), (∀ j, j < w6.heap.size → w'.heap[j]? = w6.heap[j]?) → Calls Ybaf.prog 22 #[.pointer (some ⟨w3.heap.size + 1, 0, none⟩)] w' fun e w'' => e = .returned (.tuple #[.int .u8 (dat 8 : Int), .nilIface]) ∧ Only (fun j => j = w3.heap.size + 1) w' w'') := fun h w' he => fine_byte hfin.br h he
              have hbR : b ≠ w3.heap.size + 1 := by omega
              have q8 : 8 < N → w6.cell? ⟨b, o + 8, none⟩ = some (.int .u8 (dat 8 : Int)) := fun h => hdc 8 h
              have HQ8 := hide q8
              have hR6 : w3.heap.size + 3 < w6.heap.size := hfin.rd.lt
              have yra : ∀ k, ((w6.drewN k).alloc (.cells #[.int .u16 0, .int .u32 0] 56)).cell? ⟨w3.heap.size + 3, 0, none⟩ = some (.pointer (some ⟨w3.heap.size + 1, 0, none⟩)) := fun k => (((Below.refl _ (w6.drewN k)).alloc (Nat.le_refl _) _).cell (p := ⟨w3.heap.size + 3, 0, none⟩) hR6).trans yr
              have hR7 : w3.heap.size + 3 ≠ w6.heap.size := by omega
              have hR8 : w6.heap.size ≠ w3.heap.size + 3 := by omega
              have hb6 : b < w6.heap.size := by have := hfin.bel.size; omega
              have n0a : ∀ k, ((w6.drewN k).alloc (.cells #[.int .u16 0, .int .u32 0] 56)).cell? ⟨w6.heap.size, 0, none⟩ = some (.int .u16 0) := fun k => new_cell (w6.drewN k) _ _ rfl 0
              have n1a : ∀ k, ((w6.drewN k).alloc (.cells #[.int .u16 0, .int .u32 0] 56)).cell? ⟨w6.heap.size, 1, none⟩ = some (.int .u32 0) := fun k => new_cell (w6.drewN k) _ _ rfl 1
              have f0a : ∀ k, ((w6.drewN k).alloc (.cells #[.int .u16 0, .int .u32 0] 56)).frozen? ⟨w6.heap.size, 0, none⟩ = false := fun k => new_frozen (w6.drewN k) _ _ rfl 0
              have f1a : ∀ k, ((w6.drewN k).alloc (.cells #[.int .u16 0, .int .u32 0] 56)).frozen? ⟨w6.heap.size, 1, none⟩ = false := fun k => new_frozen (w6.drewN k) _ _ rfl 1
              clear q8 hfin hdn hdc
              go_wp2_with fail
              go_quiet (fail)
              go_wp2_with fail
              go_quiet (fail)
              by_cases hN9 : 8 < N
              · have HRB := hide (unhide HRB hN9)
                have HQ8 := hide (unhide HQ8 hN9)
                have t9 : (8 : Int) < (N : Int) := by omega
                go_wp2_with (first
                  | (go_at_call 21; refine (unhide HK _ (by exact fun i hi => unhide HPG i hi) (by exact fun i hi => unhide HPP i hi) (by omega) (by omega) (by omega)).mono ?_; rintro e w7 ⟨rfl, mk, rfl⟩))
                refine (unhide HRB _ (blk2 w6 _ _ _ _ _)).mono ?_
                rintro e w8 ⟨rfl, h8⟩
                have q8 := (h8.cell (a := ⟨b, o + 8, none⟩) hbR).trans ((World.cell?_of_block (blk2 w6 _ _ _ _ _ b hb6)).trans (unhide HQ8))
                have H8 := hide h8
                clear h8
                go_wp2_with fail
                go_ret
                exact ⟨rfl, (unhide HBF).trans (bel2 (unhide HBF).size (unhide H8) (by omega))⟩
              · go_wp2_with (first
                  | (go_at_call 21; refine (unhide HK _ (by exact fun i hi => unhide HPG i hi) (by exact fun i hi => unhide HPP i hi) (by omega) (by omega) (by omega)).mono ?_; rintro e w7 ⟨rfl, mk, rfl⟩))
                go_ret
                exact ⟨rfl, (unhide HBF).trans (bel2 (unhide HBF).size (Only.refl (fun j => j = w3.heap.size + 1) _) (by omega))⟩

set_option maxHeartbeats 4000000 in
theorem lawC_be (F : Interp) (left : Nat) (a1 : Option Addr) (N cap1 : Nat) (dat : Nat → Nat) (full : Bool) (a4 : Option Addr) (pl pc : Nat) (L Z : Nat → Nat) (aE aU : Addr) (w : World) (hF : F.answers w.tape) (hD : Data w.heap.size a1 N cap1 dat w) (hP : Prior w.heap.size a4 pl pc L Z w) (hleft : left < 4294967296) (hN4 : N ≤ 4096) (hd : ∀ i, dat i < 256) (sn : Sents w.heap.size aE aU w) :
    Calls Ybaf.prog 7 #[.int .u32 left, .slice a1 N cap1, .bool true, .bool full, .slice a4 pl pc] w fun e w' => e = .returned (.bool true) ∧ Below w.heap.size w w' := by
  have hN := hD.room.2.2
  have hNc := hD.room.1
  have hcm : cap1 ≤ 9223372036854775807 := hD.room.2.1
  have hpl := hP.room.2.2
  have hpc := hP.room.1
  have hpm : pc ≤ 9223372036854775807 := hP.room.2.1
  obtain ⟨i0, hi0, hz0, hz1, hz2⟩ := info_parts info56
  have HD := hide hD
  have HP := hide hP
  have HSN := hide sn
  have HF := hide hF
  have HDD := hide hd
  clear hD hP sn hF hd
  go_enter Ybaf.func7, Ybaf.ntmps7
  go_upto_if 33 with fail
  go_cut [11] from 33 to 39 (fun s wx => ∃ ia n0 ys, s = .slice ia n0 n0 ∧ wx.ownsRow w.heap.size 56 2 (.slice ia n0 n0) n0 ys ∧ Grew (fun _ => False) w wx ∧ pl ≤ n0 ∧ n0 ≤ 65536 ∧ (full = true → n0 = 65536) ∧ (full = false → n0 = pl))
  case first =>
    cases full with
    | true =>
      obtain ⟨wm, hmk, hown, hgr⟩ := run_makeSlice_full (P := Ybaf.prog) w w.heap.size 38 56 i0 _ 2 Ybaf.underlying38 hi0 hz0 hz1 .i64 .i64 65536 (by omega) (by rw [hz2]; omega) (by unfold maxLen; omega) (Nat.le_refl _)
      have hmk' : (Instr.makeSlice 38 (.int .i64 65536) (.int .i64 65536)).run Ybaf.prog w = .ok (.slice (some ⟨w.heap.size, 0, none⟩) 65536 65536) wm := hmk
      have HO := hide hown
      have HG := hide hgr
      clear hmk hown hgr
      go_wp2_with fail
      go_meet
      case rel => exact ⟨_, _, _, rfl, unhide HO, ⟨(unhide HG).os, (unhide HG).tape, (unhide HG).output, (unhide HG).size, fun k hk _ => (unhide HG).block k hk (by simp)⟩, by omega, by omega, fun _ => rfl, fun h => by cases h⟩
    | false =>
      cases a4 with
      | none =>
        obtain ⟨rfl, rfl⟩ := (unhide HP).nil rfl
        have hn1 : ∀ w, (binOp .neq 66 (.slice none 0 0) (.slice none 0 0)).run Ybaf.prog w = .ok (.bool false) w := fun w => by kernel_rfl
        go_wp2_with fail
        go_meet
        case rel => exact ⟨_, _, _, rfl, World.ownsRow_nil _ _ _ _, Grew.refl _ _, by omega, by omega, (fun h => by cases h), fun _ => rfl⟩
      | some x =>
        obtain ⟨wm, hmk, hown, hgr⟩ := run_makeSlice_full (P := Ybaf.prog) w w.heap.size 38 56 i0 _ 2 Ybaf.underlying38 hi0 hz0 hz1 .i64 .i64 pl (by omega) (by rw [hz2]; omega) (by unfold maxLen; omega) (Nat.le_refl _)
        have HO := hide hown
        have HG := hide hgr
        clear hown hgr
        have hn1 : ∀ w, (binOp .neq 66 (.slice (some x) pl pc) (.slice none 0 0)).run Ybaf.prog w = .ok (.bool true) w := fun w => by kernel_rfl
        go_wp2_with fail
        go_meet
        case rel => exact ⟨_, _, _, rfl, unhide HO, ⟨(unhide HG).os, (unhide HG).tape, (unhide HG).output, (unhide HG).size, fun k hk _ => (unhide HG).block k hk (by simp)⟩, by omega, by omega, (fun h => by cases h), fun _ => rfl⟩
  case rest =>
    obtain ⟨ia, n0, ys0, rfl, hown0, hgr0, hpn, hn0, hfu, hnf⟩ := hcut
    obtain ⟨w1, hw1⟩ : ∃ w1, w1 = wc := ⟨_, rfl⟩
    subst hw1
    have HO0 := hide hown0
    have HG0 := hide hgr0
    clear hown0 hgr0
    go_wp2_with fail
    go_loopw [12] (fun s wr => ∃ i ys, i ≤ pl ∧ s = .int .i64 (i : Nat) ∧ wr.ownsRow w.heap.size 56 2 (.slice ia n0 n0) n0 ys ∧ Filled ys i L Z ∧ Grew (fun k => (Value.slice ia n0 n0).ownBlock = some k) w wr) (fun s _ => pl - (intOf s).toNat)
    case atStart => exact ⟨0, ys0, by omega, rfl, unhide HO0, fun j hj => by omega, (unhide HG0).mono (fun k e => e.elim)⟩
    case round =>
      obtain ⟨i, ys, hi, rfl, hown, hfil, hgr⟩ := hrel
      by_cases hlt : i < pl
      · obtain ⟨b, o, rfl, hbB, c0, c1⟩ := (unhide HP).data i hlt
        have hbel : Below w.heap.size w wr := hgr.below (Nat.le_refl _) (fun k e => (hown.lt k e).1)
        have c0 := (hbel.cell (p := ⟨b, o + i * 2, none⟩) hbB).trans c0
        have c1 := (hbel.cell (p := ⟨b, o + i * 2 + 1, none⟩) hbB).trans c1
        obtain ⟨g, cap', e, hgb, hglt⟩ := hown.form (by omega)
        simp only [Value.slice.injEq] at e
        obtain ⟨rfl, _, rfl⟩ := e
        have hyl := hown.1
        have d0 : wr.cell? ⟨g, i * 2, none⟩ = some (ys[i * 2]'(by omega)) := by rw [hown.cellAt (i * 2) (by omega)]; exact List.getElem?_eq_getElem (by omega)
        have d1 : wr.cell? ⟨g, i * 2 + 1, none⟩ = some (ys[i * 2 + 1]'(by omega)) := by rw [hown.cellAt (i * 2 + 1) (by omega)]; exact List.getElem?_eq_getElem (by omega)
        generalize ys[i * 2]'(by omega) = u0 at d0
        generalize ys[i * 2 + 1]'(by omega) = u1 at d1
        have f0 := hown.frozenAt (i * 2)
        have f1 := hown.frozenAt (i * 2 + 1)
        have hbg : b ≠ g := by omega
        have hgb' : g ≠ b := Ne.symm hbg
        have t1 : (i : Int) < (pl : Int) := by omega
        have t2 : (i : Int) < (n0 : Int) := by omega
        have t3 : (0 : Int) ≤ (i : Int) := by omega
        have HOW := hide hown
        have HFI := hide hfil
        have HGR := hide hgr
        have HYL := hide hyl
        clear hown hfil hgr hbel hyl
        go_wp2_with fail
        go_region
        go_wp2_with fail
        go_roundw
        case rel =>
          have s1 := (unhide HOW).stored (i * 2) (.int .u16 (L i : Int))
          have s2 := s1.1.stored (i * 2 + 1) (.int .u32 (Z i : Int))
          refine ⟨i + 1, _, by omega, by simp, s2.1.drew, filled_set (unhide HFI) (by have := unhide HYL; omega), ?_⟩
          exact (((unhide HGR).setCell (a := ⟨g, i * 2, none⟩) rfl _).setCell (a := ⟨g, i * 2 + 1, none⟩) rfl _).drew
        case measure => simp [intOf]; omega
      · have hie : i = pl := by omega
        subst hie
        obtain ⟨w3, hw3⟩ : ∃ w3, w3 = wr := ⟨_, rfl⟩
        subst hw3
        have HO := hide hown
        have HFI := hide hfil
        have HG := hide hgr
        clear hown hfil hgr HO0 HG0
        have hb3 : Below w.heap.size w w3 := (unhide HG).below (Nat.le_refl _) (fun k e => ((unhide HO).lt k e).1)
        have hsz3 := hb3.size
        have HB3 := hide hb3
        have HF3 : Hid (F.answers w3.tape) := by show F.answers w3.tape; rw [hb3.tape]; exact unhide HF
        have HCR := hide (fun A hA hA0 => cready_of w.heap.size w3 hsz3 aE aU ((unhide HSN).below hb3) a1 N cap1 dat ((unhide HD).below hb3) A hA hA0)
        obtain ⟨ic0, hic, hcmp⟩ := Option.map_eq_some_iff.1 Ybaf.isComp
        obtain ⟨jc0, hjc, hjs⟩ := Option.map_eq_some_iff.1 Ybaf.isSize
        have heq := fun w a => run_eql_iface_ptr_same (P := Ybaf.prog) w a Ybaf.underlying24 Ybaf.underlying81 hic hcmp hjc
        clear hb3 hic hcmp hjc hjs
        by_cases hl8 : left < 8
        · go_wp2_with (first | (go_at_call 9; refine (newReader72 _ _).mono ?_; rintro e w4 ⟨rfl, rfl⟩))
          refine (desc_short F left left (by exact unhide HF3) (by exact (unhide HCR _ rfl rfl).rd) rfl rfl hl8).mono ?_
          rintro e w6 ⟨p, rfl, hrd, hg⟩
          have hfx := refused_facts hsz3 (by omega) (unhide HCR _ rfl rfl).rd (unhide HO) (unhide HFI) hpn hg
          have hbw := (unhide HB3).trans hfx.2
          have HK := hide (ckept ia a4 n0 n0 i pc n0 L Z w6 hfx.1 ((unhide HP).below hbw).pairs (Nat.le_refl _) hpn (by omega))
          have y32 : w6.cell? ⟨w3.heap.size + 3, 32, none⟩ = some (.iface 81 (.pointer (some ⟨p, 0, none⟩))) := by rw [hrd.cell (by omega)]; rfl
          have y6 : w6.cell? ⟨w3.heap.size + 3, 6, none⟩ = some (.int .u32 (left : Int)) := by rw [hrd.cell (by omega)]; rfl
          have y5 : w6.cell? ⟨w3.heap.size + 3, 5, none⟩ = some (.slice ia n0 n0) := by rw [hrd.cell (by omega)]; rfl
          have HBW := hide hbw
          clear hfx hbw hrd hg
          go_wp2_with (first | (go_at_call 21; refine (unhide HK).mono ?_; rintro e w7 ⟨rfl, mk, rfl⟩))
          go_ret
          exact ⟨rfl, (unhide HBW).os, (unhide HBW).tape, (unhide HBW).output, (unhide HBW).size, (unhide HBW).block⟩
        · have hl8' : 8 ≤ left := by omega
          cases full with
          | true =>
            obtain rfl : n0 = 65536 := hfu rfl
            go_wp2_with (first | (go_at_call 9; refine (newReader72 _ _).mono ?_; rintro e w4 ⟨rfl, rfl⟩))
            refine (desc_many F left left ia 65536 (by exact unhide HF3) (by exact (unhide HCR _ rfl rfl).rd) rfl rfl rfl hl8').mono ?_
            rintro e w6 ⟨p, rfl, hrd, hg⟩
            have hfx := refused_facts hsz3 (by omega) (unhide HCR _ rfl rfl).rd (unhide HO) (unhide HFI) hpn hg
            have hbw := (unhide HB3).trans hfx.2
            have HK := hide (ckept ia a4 65536 65536 i pc 65536 L Z w6 hfx.1 ((unhide HP).below hbw).pairs (Nat.le_refl _) hpn (by omega))
            have y32 : w6.cell? ⟨w3.heap.size + 3, 32, none⟩ = some (.iface 81 (.pointer (some ⟨p, 0, none⟩))) := by rw [hrd.cell (by omega)]; rfl
            have y6 : w6.cell? ⟨w3.heap.size + 3, 6, none⟩ = some (.int .u32 (left : Int)) := by rw [hrd.cell (by omega)]; rfl
            have y5 : w6.cell? ⟨w3.heap.size + 3, 5, none⟩ = some (.slice ia 65536 65536) := by rw [hrd.cell (by omega)]; rfl
            have HBW := hide hbw
            clear hfx hbw hrd hg
            go_wp2_with (first | (go_at_call 21; refine (unhide HK).mono ?_; rintro e w7 ⟨rfl, mk, rfl⟩))
            go_ret
            exact ⟨rfl, (unhide HBW).os, (unhide HBW).tape, (unhide HBW).output, (unhide HBW).size, (unhide HBW).block⟩
          | false =>
            obtain rfl : n0 = i := hnf rfl
            by_cases hN8 : N < 8
            · go_wp2_with (first | (go_at_call 9; refine (newReader72 _ _).mono ?_; rintro e w4 ⟨rfl, rfl⟩))
              refine ((unhide HCR _ rfl rfl).desc_cut F (by exact unhide HF3) rfl left left ia n0 n0 rfl rfl (by omega) hl8' hleft hN8).mono ?_
              rintro e w6 ⟨p, rfl, ⟨cs, hcs, hrd⟩, hg⟩
              have hfx := cut_facts hsz3 (unhide HCR _ rfl rfl) (unhide HO) (unhide HFI) hpn hg
              have hbw := (unhide HB3).trans hfx.2
              have hk : ∀ n, Calls Ybaf.prog 21 #[.slice ia n0 n0, .slice a4 n0 pc, .int .i64 n0] (w6.drewN n) fun e w' => e = .returned (.bool true) ∧ ∃ m, w' = (w6.drewN n).drewN m := fun n => ckept ia a4 n0 n0 n0 pc n0 L Z (w6.drewN n) (fun i hi => hfx.1 i hi) (fun i hi => ((unhide HP).below hbw).pairs i hi) (Nat.le_refl _) hpn (by omega)
              have z0 := ((unhide HSN).below hbw).g0
              have y32 : w6.cell? ⟨w3.heap.size + 3, 32, none⟩ = some (.iface 81 (.pointer (some aE))) := by rw [hrd.cell (by omega)]; rfl
              have y6 : w6.cell? ⟨w3.heap.size + 3, 6, none⟩ = some (.int .u32 ((left : Int) - 8)) := by rw [hrd.cell (by omega)]; simp [upd, putF]
              have y5 : w6.cell? ⟨w3.heap.size + 3, 5, none⟩ = some (.slice ia n0 n0) := by rw [hrd.cell (by omega)]; simp [upd, putF, nths]
              have HK := hide hk
              have HBW := hide hbw
              have hlN : (N : Int) < 8 := by omega
              clear hfx hbw hrd hg hk
              go_wp2_with fail
              go_quiet (first | (go_at_call 21; exact Calls.quiet_of (unhide HK _)))
              go_wp2_with fail
              go_ret
              exact ⟨rfl, (unhide HBW).os, (unhide HBW).tape, (unhide HBW).output, (unhide HBW).size, (unhide HBW).block⟩
            · have hN8' : 8 ≤ N := by omega
              go_wp2_with (first | (go_at_call 9; refine (newReader72 _ _).mono ?_; rintro e w4 ⟨rfl, rfl⟩))
              refine ((unhide HCR _ rfl rfl).desc_be left left ia n0 n0 w.heap.size ys rfl rfl rfl (by omega) hl8' hleft hN8' (by exact own_four (unhide HO) _ _ _ _) (by have := (four hsz3 (.cells #[] 0) (.cells #[] 0) (.cells #[] 0) (.cells #[] 0)).size; simp; omega) (unhide HDD)).mono ?_
              rintro e w6 ⟨rfl, hdn⟩
              obtain ⟨g', cap', hfin⟩ := done_facts hsz3 (unhide HCR _ rfl rfl) (unhide HO) (unhide HFI) hpn hdn (unhide HD) (unhide HB3)
              have y32 : w6.cell? ⟨w3.heap.size + 3, 32, none⟩ = some .nilIface := by rw [hfin.rd.cell (by omega)]; simp [upd, gotG, putF, bytes_len, nths]
              have y6 : w6.cell? ⟨w3.heap.size + 3, 6, none⟩ = some (.int .u32 ((left : Int) - 8)) := by rw [hfin.rd.cell (by omega)]; simp [upd, gotG, putF]
              have y5 : w6.cell? ⟨w3.heap.size + 3, 5, none⟩ = some (.slice (some ⟨g', 0, none⟩) (n0 + 1) cap') := by rw [hfin.rd.cell (by omega)]; simp [upd]
              have yr : w6.cell? ⟨w3.heap.size + 3, 0, none⟩ = some (.pointer (some ⟨w3.heap.size + 1, 0, none⟩)) := by rw [hfin.rd.cell (by omega)]; simp [upd, gotG, putF, nths]
              have e0 := hfin.last.1
              have e1 := hfin.last.2
              have HK := hide (ckept (some ⟨g', 0, none⟩) a4 (n0 + 1) cap' n0 pc n0 L Z)
              obtain ⟨b, o, rfl, hbB, hdc⟩ := data_cells hN8' (unhide HD) ((unhide HB3).trans hfin.bel)
              have q0 : w6.cell? ⟨b, o, none⟩ = some (.int .u8 (dat 0 : Int)) := hdc 0 (by omega)
              have q1 := hdc 1 (by omega)
              have q4 := hdc 4 (by omega)
              have q5 := hdc 5 (by omega)
              have q6 := hdc 6 (by omega)
              have q7 := hdc 7 (by omega)
              have d0 := unhide HDD 0
              have d1 := unhide HDD 1
              have d4 := unhide HDD 4
              have d5 := unhide HDD 5
              have d6 := unhide HDD 6
              have d7 := unhide HDD 7
              have t0 : (7 : Int) < (N : Int) := by omega
              have t1 : (6 : Int) < (N : Int) := by omega
              have t2 : (5 : Int) < (N : Int) := by omega
              have t3 : (4 : Int) < (N : Int) := by omega
              have t4 : (1 : Int) < (N : Int) := by omega
              have t5 : (0 : Int) < (N : Int) := by omega
              have h16 := or16_be d0 d1
              have h32 := or32_be d4 d5 d6 d7
              revert e0 e1 h16 h32
              generalize (dat 1 : Int) + (dat 0 : Int) * 256 = lt
              generalize (dat 7 : Int) + (dat 6 : Int) * 256 + (dat 5 : Int) * 65536 + (dat 4 : Int) * 16777216 = sl
              intro e0 e1 h16 h32
              have HPP := hide ((unhide HP).below ((unhide HB3).trans hfin.bel)).pairs
              have HPG := hide hfin.pairs
              have HBF := hide ((unhide HB3).trans hfin.bel)
              have HRB : Hid (8 < N → ∀ (w' : World), (∀ j, j < w6.heap.size → w'.heap[j]? = w6.heap[j]?) → Calls Ybaf.prog 22 #[.pointer (some ⟨w3.heap.size + 1, 0, none⟩)] w' fun e w'' => e = .returned (.tuple #[.int .u8 (dat 8 : Int), .nilIface]) ∧ Only (fun j => j = w3.heap.size + 1) w' w'') := fun h w' he => fine_byte hfin.br h he
              have hbR : b ≠ w3.heap.size + 1 := by omega
              have q8 : 8 < N → w6.cell? ⟨b, o + 8, none⟩ = some (.int .u8 (dat 8 : Int)) := fun h => hdc 8 h
              have HQ8 := hide q8
              have hR6 : w3.heap.size + 3 < w6.heap.size := hfin.rd.lt
              have yra : ∀ k, ((w6.drewN k).alloc (.cells #[.int .u16 0, .int .u32 0] 56)).cell? ⟨w3.heap.size + 3, 0, none⟩ = some (.pointer (some ⟨w3.heap.size + 1, 0, none⟩)) := fun k => (((Below.refl _ (w6.drewN k)).alloc (Nat.le_refl _) _).cell (p := ⟨w3.heap.size + 3, 0, none⟩) hR6).trans yr
              have hR7 : w3.heap.size + 3 ≠ w6.heap.size := by omega
              have hR8 : w6.heap.size ≠ w3.heap.size + 3 := by omega
              have hb6 : b < w6.heap.size := by have := hfin.bel.size; omega
              have n0a : ∀ k, ((w6.drewN k).alloc (.cells #[.int .u16 0, .int .u32 0] 56)).cell? ⟨w6.heap.size, 0, none⟩ = some (.int .u16 0) := fun k => new_cell (w6.drewN k) _ _ rfl 0
              have n1a : ∀ k, ((w6.drewN k).alloc (.cells #[.int .u16 0, .int .u32 0] 56)).cell? ⟨w6.heap.size, 1, none⟩ = some (.int .u32 0) := fun k => new_cell (w6.drewN k) _ _ rfl 1
              have f0a : ∀ k, ((w6.drewN k).alloc (.cells #[.int .u16 0, .int .u32 0] 56)).frozen? ⟨w6.heap.size, 0, none⟩ = false := fun k => new_frozen (w6.drewN k) _ _ rfl 0
              have f1a : ∀ k, ((w6.drewN k).alloc (.cells #[.int .u16 0, .int .u32 0] 56)).frozen? ⟨w6.heap.size, 1, none⟩ = false := fun k => new_frozen (w6.drewN k) _ _ rfl 1
              clear q8 hfin hdn hdc
              go_wp2_with fail
              go_quiet (fail)
              go_wp2_with fail
              go_quiet (fail)
              by_cases hN9 : 8 < N
              · have HRB := hide (unhide HRB hN9)
                have HQ8 := hide (unhide HQ8 hN9)
                have t9 : (8 : Int) < (N : Int) := by omega
                go_wp2_with (first
                  | (go_at_call 21; refine (unhide HK _ (by exact fun i hi => unhide HPG i hi) (by exact fun i hi => unhide HPP i hi) (by omega) (by omega) (by omega)).mono ?_; rintro e w7 ⟨rfl, mk, rfl⟩))
                refine (unhide HRB _ (blk2 w6 _ _ _ _ _)).mono ?_
                rintro e w8 ⟨rfl, h8⟩
                have q8 := (h8.cell (a := ⟨b, o + 8, none⟩) hbR).trans ((World.cell?_of_block (blk2 w6 _ _ _ _ _ b hb6)).trans (unhide HQ8))
                have H8 := hide h8
                clear h8
                go_wp2_with fail
                go_ret
                exact ⟨rfl, (unhide HBF).trans (bel2 (unhide HBF).size (unhide H8) (by omega))⟩
              · go_wp2_with (first
                  | (go_at_call 21; refine (unhide HK _ (by exact fun i hi => unhide HPG i hi) (by exact fun i hi => unhide HPP i hi) (by omega) (by omega) (by omega)).mono ?_; rintro e w7 ⟨rfl, mk, rfl⟩))
                go_ret
                exact ⟨rfl, (unhide HBF).trans (bel2 (unhide HBF).size (Only.refl (fun j => j = w3.heap.size + 1) _) (by omega))⟩

theorem longC (left : Int) (a1 : Option Addr) (N cap1 : Nat) (big full : Bool) (a4 : Option Addr) (pl pc : Nat) (w : World) (h : 1024 < pl ∨ 4096 < N) (hm : pl ≤ 9223372036854775807) (hm2 : N ≤ 9223372036854775807) :
    Calls Ybaf.prog 7 #[.int .u32 left, .slice a1 N cap1, .bool big, .bool full, .slice a4 pl pc] w fun e w' => e = .returned (.bool true) ∧ Below w.heap.size w w' := by
  by_cases hp : 1024 < pl
  · go_enter Ybaf.func7, Ybaf.ntmps7
    go_wp2_with fail
    go_ret
    exact ⟨rfl, Below.refl _ _⟩
  · have hN : 4096 < N := by omega
    go_enter Ybaf.func7, Ybaf.ntmps7
    go_wp2_with fail
    go_ret
    exact ⟨rfl, Below.refl _ _⟩
end Go.Proofs.YbulkcyvkFmt
