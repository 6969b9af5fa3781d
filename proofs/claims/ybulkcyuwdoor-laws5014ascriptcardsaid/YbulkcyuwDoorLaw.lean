/-
  LawS5014AScript (3).
-/
import Derived.Test.YbulkcyuwDoorLawH
import Derived.Deep.RegionHeld3
namespace Go.Proofs.YbulkcyuwDoor
open Go.RowKit
attribute [local go_sem] run_store_float

theorem pickG_true {odd : Bool} {la lo : Nat} {t c : Int} {s : St} {f : Fr} {g : Nat × Nat × Bool} (e : otherF odd s = f) (h : (if near t c (otherF odd s).t (otherF odd s).c then globalF odd la lo (otherF odd s).o (otherF odd s).la (otherF odd s).lo else some (0, 0, false)) = some g) (hn : near t c f.t f.c = true) : globalF odd la lo f.o f.la f.lo = some g := by
  rw [e, if_pos hn] at h; exact h
theorem pickG_false {odd : Bool} {la lo : Nat} {t c : Int} {s : St} {f : Fr} {g : Nat × Nat × Bool} (e : otherF odd s = f) (h : (if near t c (otherF odd s).t (otherF odd s).c then globalF odd la lo (otherF odd s).o (otherF odd s).la (otherF odd s).lo else some (0, 0, false)) = some g) (hn : near t c f.t f.c = false) : (some (0, 0, false) : Option (Nat × Nat × Bool)) = some g := by
  rw [e, if_neg (by rw [hn]; decide)] at h; exact h
theorem pickL_true {q : Bool} {x y r : Option (Nat × Nat × Bool)} (h : (if q then x else y) = r) (hn : q = true) : x = r := by
  rw [if_pos hn] at h; exact h
theorem pickL_false {q : Bool} {x y r : Option (Nat × Nat × Bool)} (h : (if q then x else y) = r) (hn : q = false) : y = r := by
  rw [if_neg (by rw [hn]; decide)] at h; exact h

/-- What the loop keeps, of the frame too: its last 179 slots are a list. -/
def LI (a0 : Option Addr) (n cap0 : Nat) (w : World) (a : Act) (wr : World) : Prop :=
  ∃ (u2 u5 u6 u7 u8 u9 u10 u11 u12 u13 u14 u15 u16 u17 u18 u19 u20 u21 u22 : Value) (l : List Value), a = ⟨(Value.slice a0 n cap0 :: undef :: u2 :: Value.pointer (some ⟨w.heap.size, 0, none⟩) :: Value.pointer (some ⟨w.heap.size + 1, 0, none⟩) :: u5 :: u6 :: u7 :: u8 :: u9 :: u10 :: u11 :: u12 :: u13 :: u14 :: u15 :: u16 :: u17 :: u18 :: u19 :: u20 :: u21 :: u22 :: Value.slice a0 n cap0 :: Value.int .i64 (n : Int) :: Value.bool false :: l).toArray, []⟩ ∧ l.length = 179 ∧
    ∃ (i : Nat) (T : Int) (L : List (Int × St × Nat)) (G : Nat → St), u6 = .int .i64 i ∧ u5 = .int .i64 T ∧ Inv n i T L G w wr
def Lmu (n : Nat) (a : Act) (_ : World) : Nat := n - (intOf (a.tmps.getD 6 undef)).toNat
theorem uncons {l : List Value} {k : Nat} (h : l.length = k + 1) : ∃ x l', l = x :: l' ∧ l'.length = k := by
  cases l with
  | nil => simp at h
  | cons x l' => exact ⟨x, l', rfl, by simpa using h⟩
def nth : List Value → Nat → Value
  | [], _ => undef
  | x :: _, 0 => x
  | _ :: l, k + 1 => nth l k
theorem nth_map : ∀ l : List Value, (List.range l.length).map (nth l) = l
  | [] => rfl
  | x :: l => by
    rw [List.length_cons, List.range_succ_eq_map, List.map_cons, List.map_map]
    show x :: (List.range l.length).map (nth (x :: l) ∘ Nat.succ) = x :: l
    have e : (nth (x :: l) ∘ Nat.succ) = nth l := rfl
    rw [e, nth_map l]
set_option maxRecDepth 100000 in
theorem open179 {l : List Value} (h : l.length = 179) : l = [nth l 0, nth l 1, nth l 2, nth l 3, nth l 4, nth l 5, nth l 6, nth l 7, nth l 8, nth l 9, nth l 10, nth l 11, nth l 12, nth l 13, nth l 14, nth l 15, nth l 16, nth l 17, nth l 18, nth l 19, nth l 20, nth l 21, nth l 22, nth l 23, nth l 24, nth l 25, nth l 26, nth l 27, nth l 28, nth l 29, nth l 30, nth l 31, nth l 32, nth l 33, nth l 34, nth l 35, nth l 36, nth l 37, nth l 38, nth l 39, nth l 40, nth l 41, nth l 42, nth l 43, nth l 44, nth l 45, nth l 46, nth l 47, nth l 48, nth l 49, nth l 50, nth l 51, nth l 52, nth l 53, nth l 54, nth l 55, nth l 56, nth l 57, nth l 58, nth l 59, nth l 60, nth l 61, nth l 62, nth l 63, nth l 64, nth l 65, nth l 66, nth l 67, nth l 68, nth l 69, nth l 70, nth l 71, nth l 72, nth l 73, nth l 74, nth l 75, nth l 76, nth l 77, nth l 78, nth l 79, nth l 80, nth l 81, nth l 82, nth l 83, nth l 84, nth l 85, nth l 86, nth l 87, nth l 88, nth l 89, nth l 90, nth l 91, nth l 92, nth l 93, nth l 94, nth l 95, nth l 96, nth l 97, nth l 98, nth l 99, nth l 100, nth l 101, nth l 102, nth l 103, nth l 104, nth l 105, nth l 106, nth l 107, nth l 108, nth l 109, nth l 110, nth l 111, nth l 112, nth l 113, nth l 114, nth l 115, nth l 116, nth l 117, nth l 118, nth l 119, nth l 120, nth l 121, nth l 122, nth l 123, nth l 124, nth l 125, nth l 126, nth l 127, nth l 128, nth l 129, nth l 130, nth l 131, nth l 132, nth l 133, nth l 134, nth l 135, nth l 136, nth l 137, nth l 138, nth l 139, nth l 140, nth l 141, nth l 142, nth l 143, nth l 144, nth l 145, nth l 146, nth l 147, nth l 148, nth l 149, nth l 150, nth l 151, nth l 152, nth l 153, nth l 154, nth l 155, nth l 156, nth l 157, nth l 158, nth l 159, nth l 160, nth l 161, nth l 162, nth l 163, nth l 164, nth l 165, nth l 166, nth l 167, nth l 168, nth l 169, nth l 170, nth l 171, nth l 172, nth l 173, nth l 174, nth l 175, nth l 176, nth l 177, nth l 178] := by
  have e := nth_map l
  rw [h] at e
  exact e.symm.trans (by kernel_rfl)
/-- The frame at a meeting: the first slots; the others are a list. -/
def CF (v : Value) (n S : Nat) (Tn : Int) (i c9 cq a b : Nat) (ok : Bool) (A c18 : Nat) (s20 s21 s22 : Value) (x : Act) (l : List Value) : Prop :=
  ∃ u2 u7 u8 u11 u15 u17 u19 : Value, x = ⟨(v :: undef :: u2 :: Value.pointer (some ⟨S, 0, none⟩) :: Value.pointer (some ⟨S + 1, 0, none⟩) :: Value.int .i64 Tn :: Value.int .i64 (i : Int) :: u7 :: u8 :: Value.pointer (some ⟨c9, 0, none⟩) :: Value.int .u8 (cq : Int) :: u11 :: Value.float .f64 a :: Value.float .f64 b :: Value.bool ok :: u15 :: Value.pointer (some ⟨S + 1, A * 14, none⟩) :: u17 :: Value.pointer (some ⟨c18, 0, none⟩) :: u19 :: s20 :: s21 :: s22 :: v :: Value.int .i64 (n : Int) :: Value.bool false :: l).toArray, []⟩ ∧ l.length = 179
theorem lt_of {a b c d : Nat} (h1 : a = c) (h2 : b = d) (h : c < d) : a < b := by rw [h1, h2]; exact h

set_option maxHeartbeats 100000000 in
set_option maxRecDepth 100000 in
theorem law_any (a0 : Option Addr) (n cap0 : Nat) (ad la lo sp ck : Nat → Nat) (od : Nat → Bool) (w : World) (hn : n ≤ 512) (hT : Tabs w) (hc : Came a0 n ad la lo sp ck od w) :
    Calls Ybad.prog 3 #[.slice a0 n cap0] w fun e w' => e = .returned (.bool true) ∧ Below w.heap.size w w' := by
  have hd : decide ((512 : Int) < (n : Int)) = false := by simp; omega
  have hw5 : 5 < w.heap.size := cell_lt (hT.1.2 0 (by decide))
  have HT := hide hT
  have HC := hide hc
  clear hT hc
  go_enter Ybad.func3, Ybad.ntmps3
  go_wp2_with fail
  refine wp_loop (LI a0 n cap0 w) (Lmu n) ?_ ?_
  case refine_1 =>
    refine ⟨_, _, _, _, _, _, _, _, _, _, _, _, _, _, _, _, _, _, _, _, rfl, rfl, 0, 0, [], fun _ => stZ, rfl, rfl, by omega, by omega, by omega, by simp, .inl ⟨?_, rfl⟩, ?_, fun a _ => ⟨rfl, good_zero⟩, Grew.alloc (Grew.alloc (Grew.refl _ w) _) _⟩
    · exact (alloc_old _ _ (by rw [World.size_alloc]; omega)).trans (alloc_last w _)
    · have h := World.rowIs_alloc (w.alloc (.cells #[.pointer none] 25)) z42 35 (stF fun _ => stZ) z42_at
      rw [World.size_alloc] at h
      exact h
  case refine_2 =>
    intro act wr hI
    obtain ⟨u2, u5, u6, u7, u8, u9, u10, u11, u12, u13, u14, u15, u16, u17, u18, u19, u20, u21, u22, l, ha, hl, i, T, L, G, rfl, rfl, hi, hT0, hT1, hL, hpos, hrow, hG, hGr⟩ := hI
    rw [open179 hl] at ha
    clear hl
    subst ha
    try dsimp only
    by_cases hin : i < n
    case neg =>
      have hdi : decide ((i : Int) < (n : Int)) = false := by simp; omega
      have HB := hide (hGr.below (Nat.le_refl _) (fun k h => h))
      clear hpos hrow hG hGr
      go_wp2_with fail
      go_wp2_with fail
      go_ret
      exact ⟨rfl, unhide HB⟩
    case pos =>
      have hdi : decide ((i : Int) < (n : Int)) = true := by simp; omega
      obtain ⟨bb, oo, rfl, hbb, e0, e1, e2, e3, e4, e5, u0, u2, u3, u4, u5⟩ := unhide HC i hin
      have hbn : ¬ (w.heap.size ≤ bb) := by omega
      have d0 := hGr.cell hbn e0
      have d1 := hGr.cell hbn e1
      have d2 := hGr.cell hbn e2
      have d3 := hGr.cell hbn e3
      have d4 := hGr.cell hbn e4
      have d5 := hGr.cell hbn e5
      clear e0 e1 e2 e3 e4 e5
      have m0 : (ad i : Int) % 3 = ((ad i % 3 : Nat) : Int) := by omega
      have m1 : (sp i : Int) % 8 = ((sp i % 8 : Nat) : Int) := by omega
      have m2 : (ck i : Int) % 2 = ((ck i % 2 : Nat) : Int) := by omega
      have m3 := mask17 (la i) u2
      have m4 := mask17 (lo i) u3
      obtain ⟨A, hA, hA3⟩ : ∃ A, A = ad i % 3 ∧ A < 3 := ⟨_, rfl, by omega⟩
      obtain ⟨sq, hsq, hsq8⟩ : ∃ A, A = sp i % 8 ∧ A < 8 := ⟨_, rfl, by omega⟩
      obtain ⟨cq, hcq, hcq2⟩ : ∃ A, A = ck i % 2 ∧ A < 2 := ⟨_, rfl, by omega⟩
      obtain ⟨LA, hLA, hLA'⟩ : ∃ A, A = la i % 131072 ∧ A ≤ 131071 := ⟨_, rfl, by omega⟩
      obtain ⟨LO, hLO, hLO'⟩ : ∃ A, A = lo i % 131072 ∧ A ≤ 131071 := ⟨_, rfl, by omega⟩
      rw [← hA] at m0
      rw [← hsq] at m1
      rw [← hcq] at m2
      rw [← hLA] at m3
      rw [← hLO] at m4
      have wK2 : (A : Int) * 65793 + 2748 = keyOf A := rfl
      have HI := hide (And.intro hpos (And.intro hrow (And.intro hG hGr)))
      clear hpos hrow hG hGr
      clear hA hsq hcq hLA hLO u0 u2 u3 u4 u5
      generalize od i = odd at *
      obtain ⟨hpos, hrow, hG, hGr⟩ := unhide HI
      obtain ⟨hgA, hgoodA⟩ := hG A hA3
      obtain ⟨ga, go, gk, s2, a, b, ok, a', b', hg, hs2, hr, ha, hb, hgood2, hz⟩ := step_plain odd LA LO (T + (sq : Int) * 30000000) (cq : Int) (G A) hgoodA hLA' hLO'
      have HS := hide (And.intro hg (And.intro hs2 (And.intro hr (And.intro ha (And.intro hb (And.intro hgood2 hz))))))
      clear hpos hrow hG hGr hgoodA hg hs2 hr ha hb hgood2 hz
      have HgA := hide hgA
      clear hgA
      go_wp2_with fail
      obtain ⟨hg, hs2, hr, ha, hb, hgood2, hz⟩ := unhide HS
      obtain ⟨hpos, hrow, hG, hGr⟩ := unhide HI
      have GA : ∀ o1 o2 o3, Grew (fun _ => False) wr (((wr.alloc o1).alloc o2).alloc o3) := fun o1 o2 o3 => Grew.alloc (Grew.alloc (Grew.alloc (Grew.refl _ wr) _) _) _
      refine (locate_any odd w.heap.size w.heap.size (keyOf A) LA LO (T + (sq : Int) * 30000000) (cq : Int) L (G A) (unhide HgA) ga go gk hg s2 hs2 a b ok hr a' b' ha hb _ (Nat.le_refl _) (hpos.grew (GA _ _ _)) ((GA _ _ _).tabs (fun _ h => h.elim) (hGr.tabs (fun k hk => Nat.lt_of_lt_of_le hw5 hk) (unhide HT))) hw5 (by omega)).mono ?_
      rintro e w1 ⟨rfl, ⟨L', hpos', hlook, hlen⟩, hG1⟩
      have hWr : ∀ o1 o2 o3, (((wr.alloc o1).alloc o2).alloc o3).rowIs (w.heap.size + 1) 35 42 (stF G) := fun o1 o2 o3 => (GA o1 o2 o3).row (fun h => h) hrow
      have hlt3 : ∀ o1 o2 o3, (((wr.alloc o1).alloc o2).alloc o3).heap.size = wr.heap.size + 3 := fun o1 o2 o3 => by simp [World.size_alloc]
      have hwr : w.heap.size < wr.heap.size := by have := hrow.lt; omega
      have hAft : After odd LA LO w wr L' G w1 := by
        refine ⟨hpos', ?_, ?_, ?_, hG1.tabs (fun k hk => Nat.lt_of_lt_of_le hw5 hk.1) ((GA _ _ _).tabs (fun _ h => h.elim) (hGr.tabs (fun k hk => Nat.lt_of_lt_of_le hw5 hk) (unhide HT))), ?_⟩
        · obtain ⟨c, fr, hcb⟩ := row_block (hWr _ _ _)
          exact hG1.row (not_touched hcb (by omega)) (hWr _ _ _)
        · have hb0 : (((wr.alloc (.cells #[.int .u8 (ad i), .bool odd, .int .u32 (la i), .int .u32 (lo i), .int .u8 (sp i), .int .u8 (ck i)] 37)).alloc (.cells #[.bool odd, .int .u32 LA, .int .u32 LO] 29)).alloc (.cells #[.int .i64 (T + (sq : Int) * 30000000), .int .u8 (cq : Int)] 40)).heap[wr.heap.size]? = some (.cells #[.int .u8 (ad i), .bool odd, .int .u32 (la i), .int .u32 (lo i), .int .u8 (sp i), .int .u8 (ck i)] 37) :=
            (alloc_old _ _ (by rw [World.size_alloc, World.size_alloc]; omega)).trans ((alloc_old _ _ (by rw [World.size_alloc]; omega)).trans (alloc_last wr _))
          have hb1 := (hG1.block wr.heap.size (heap_lt hb0) (not_touched hb0 (by omega))).trans hb0
          simp [World.cell?, hb1]
        · have hb0 : Cpr (wr.heap.size + 1) odd LA LO (((wr.alloc (.cells #[.int .u8 (ad i), .bool odd, .int .u32 (la i), .int .u32 (lo i), .int .u8 (sp i), .int .u8 (ck i)] 37)).alloc (.cells #[.bool odd, .int .u32 LA, .int .u32 LO] 29)).alloc (.cells #[.int .i64 (T + (sq : Int) * 30000000), .int .u8 (cq : Int)] 40)) := (Cpr.new (by simp [World.size_alloc])).alloc _
          exact (hG1.block (wr.heap.size + 1) (heap_lt hb0) (not_touched hb0 (by omega))).trans hb0
        · exact (hGr.trans (GA _ _ _) (fun _ _ h => h.elim)).trans hG1 (fun j hj h => h.1)
      have HA := hide hAft
      obtain ⟨_, hrow1, hodd, hC1, _, _⟩ := hAft
      have q0 : w1.cell? ⟨w.heap.size + 1, A * 14, none⟩ = some (.int .i64 (G A).f0.t) := by
        have h := hrow1.cell (i := A * 14 + 0) (by omega)
        rw [stF_at _ _ _ (by omega)] at h
        exact h
      have r0 : ∀ o, (w1.alloc o).cell? ⟨w.heap.size + 1, A * 14, none⟩ = some (.int .i64 (G A).f0.t) := fun o => (Grew.alloc (Grew.refl (fun _ => False) w1) o).cell (fun h => h) q0
      have q1 : w1.cell? ⟨w.heap.size + 1, A * 14 + 1, none⟩ = some (.int .i64 (G A).f1.t) := by
        have h := hrow1.cell (i := A * 14 + 1) (by omega)
        rw [stF_at _ _ _ (by omega)] at h
        exact h
      have r1 : ∀ o, (w1.alloc o).cell? ⟨w.heap.size + 1, A * 14 + 1, none⟩ = some (.int .i64 (G A).f1.t) := fun o => (Grew.alloc (Grew.refl (fun _ => False) w1) o).cell (fun h => h) q1
      have q2 : w1.cell? ⟨w.heap.size + 1, A * 14 + 2, none⟩ = some (.bool (G A).f0.o) := by
        have h := hrow1.cell (i := A * 14 + 2) (by omega)
        rw [stF_at _ _ _ (by omega)] at h
        exact h
      have r2 : ∀ o, (w1.alloc o).cell? ⟨w.heap.size + 1, A * 14 + 2, none⟩ = some (.bool (G A).f0.o) := fun o => (Grew.alloc (Grew.refl (fun _ => False) w1) o).cell (fun h => h) q2
      have q3 : w1.cell? ⟨w.heap.size + 1, A * 14 + 3, none⟩ = some (.int .u32 (G A).f0.la) := by
        have h := hrow1.cell (i := A * 14 + 3) (by omega)
        rw [stF_at _ _ _ (by omega)] at h
        exact h
      have r3 : ∀ o, (w1.alloc o).cell? ⟨w.heap.size + 1, A * 14 + 3, none⟩ = some (.int .u32 (G A).f0.la) := fun o => (Grew.alloc (Grew.refl (fun _ => False) w1) o).cell (fun h => h) q3
      have q4 : w1.cell? ⟨w.heap.size + 1, A * 14 + 4, none⟩ = some (.int .u32 (G A).f0.lo) := by
        have h := hrow1.cell (i := A * 14 + 4) (by omega)
        rw [stF_at _ _ _ (by omega)] at h
        exact h
      have r4 : ∀ o, (w1.alloc o).cell? ⟨w.heap.size + 1, A * 14 + 4, none⟩ = some (.int .u32 (G A).f0.lo) := fun o => (Grew.alloc (Grew.refl (fun _ => False) w1) o).cell (fun h => h) q4
      have q5 : w1.cell? ⟨w.heap.size + 1, A * 14 + 5, none⟩ = some (.bool (G A).f1.o) := by
        have h := hrow1.cell (i := A * 14 + 5) (by omega)
        rw [stF_at _ _ _ (by omega)] at h
        exact h
      have r5 : ∀ o, (w1.alloc o).cell? ⟨w.heap.size + 1, A * 14 + 5, none⟩ = some (.bool (G A).f1.o) := fun o => (Grew.alloc (Grew.refl (fun _ => False) w1) o).cell (fun h => h) q5
      have q6 : w1.cell? ⟨w.heap.size + 1, A * 14 + 6, none⟩ = some (.int .u32 (G A).f1.la) := by
        have h := hrow1.cell (i := A * 14 + 6) (by omega)
        rw [stF_at _ _ _ (by omega)] at h
        exact h
      have r6 : ∀ o, (w1.alloc o).cell? ⟨w.heap.size + 1, A * 14 + 6, none⟩ = some (.int .u32 (G A).f1.la) := fun o => (Grew.alloc (Grew.refl (fun _ => False) w1) o).cell (fun h => h) q6
      have q7 : w1.cell? ⟨w.heap.size + 1, A * 14 + 7, none⟩ = some (.int .u32 (G A).f1.lo) := by
        have h := hrow1.cell (i := A * 14 + 7) (by omega)
        rw [stF_at _ _ _ (by omega)] at h
        exact h
      have r7 : ∀ o, (w1.alloc o).cell? ⟨w.heap.size + 1, A * 14 + 7, none⟩ = some (.int .u32 (G A).f1.lo) := fun o => (Grew.alloc (Grew.refl (fun _ => False) w1) o).cell (fun h => h) q7
      have q8 : w1.cell? ⟨w.heap.size + 1, A * 14 + 8, none⟩ = some (.int .u8 (G A).f0.c) := by
        have h := hrow1.cell (i := A * 14 + 8) (by omega)
        rw [stF_at _ _ _ (by omega)] at h
        exact h
      have r8 : ∀ o, (w1.alloc o).cell? ⟨w.heap.size + 1, A * 14 + 8, none⟩ = some (.int .u8 (G A).f0.c) := fun o => (Grew.alloc (Grew.refl (fun _ => False) w1) o).cell (fun h => h) q8
      have q9 : w1.cell? ⟨w.heap.size + 1, A * 14 + 9, none⟩ = some (.int .u8 (G A).f1.c) := by
        have h := hrow1.cell (i := A * 14 + 9) (by omega)
        rw [stF_at _ _ _ (by omega)] at h
        exact h
      have r9 : ∀ o, (w1.alloc o).cell? ⟨w.heap.size + 1, A * 14 + 9, none⟩ = some (.int .u8 (G A).f1.c) := fun o => (Grew.alloc (Grew.refl (fun _ => False) w1) o).cell (fun h => h) q9
      have q10 : w1.cell? ⟨w.heap.size + 1, A * 14 + 10, none⟩ = some (.float .f64 (G A).fx.la) := by
        have h := hrow1.cell (i := A * 14 + 10) (by omega)
        rw [stF_at _ _ _ (by omega)] at h
        exact h
      have r10 : ∀ o, (w1.alloc o).cell? ⟨w.heap.size + 1, A * 14 + 10, none⟩ = some (.float .f64 (G A).fx.la) := fun o => (Grew.alloc (Grew.refl (fun _ => False) w1) o).cell (fun h => h) q10
      have q11 : w1.cell? ⟨w.heap.size + 1, A * 14 + 11, none⟩ = some (.float .f64 (G A).fx.lo) := by
        have h := hrow1.cell (i := A * 14 + 11) (by omega)
        rw [stF_at _ _ _ (by omega)] at h
        exact h
      have r11 : ∀ o, (w1.alloc o).cell? ⟨w.heap.size + 1, A * 14 + 11, none⟩ = some (.float .f64 (G A).fx.lo) := fun o => (Grew.alloc (Grew.refl (fun _ => False) w1) o).cell (fun h => h) q11
      have q12 : w1.cell? ⟨w.heap.size + 1, A * 14 + 12, none⟩ = some (.int .i64 (G A).fx.t) := by
        have h := hrow1.cell (i := A * 14 + 12) (by omega)
        rw [stF_at _ _ _ (by omega)] at h
        exact h
      have r12 : ∀ o, (w1.alloc o).cell? ⟨w.heap.size + 1, A * 14 + 12, none⟩ = some (.int .i64 (G A).fx.t) := fun o => (Grew.alloc (Grew.refl (fun _ => False) w1) o).cell (fun h => h) q12
      have q13 : w1.cell? ⟨w.heap.size + 1, A * 14 + 13, none⟩ = some (.int .u8 (G A).fx.c) := by
        have h := hrow1.cell (i := A * 14 + 13) (by omega)
        rw [stF_at _ _ _ (by omega)] at h
        exact h
      have r13 : ∀ o, (w1.alloc o).cell? ⟨w.heap.size + 1, A * 14 + 13, none⟩ = some (.int .u8 (G A).fx.c) := fun o => (Grew.alloc (Grew.refl (fun _ => False) w1) o).cell (fun h => h) q13
      have fz : ∀ o i, (w1.alloc o).frozen? ⟨w.heap.size + 1, i, none⟩ = false := fun o i => frozen_of_block (alloc_old w1 o hrow1.lt) (hrow1.frozen i)
      have x0 := hC1.c0
      have x1 := hC1.c1
      have x2 := hC1.c2
      have z0 : ∀ o, (w1.alloc o).cell? ⟨wr.heap.size + 1, 0, none⟩ = some (.bool odd) := fun o => (Grew.alloc (Grew.refl (fun _ => False) w1) o).cell (fun h => h) x0
      have z1 : ∀ o, (w1.alloc o).cell? ⟨wr.heap.size + 1, 1, none⟩ = some (.int .u32 LA) := fun o => (Grew.alloc (Grew.refl (fun _ => False) w1) o).cell (fun h => h) x1
      have z2 : ∀ o, (w1.alloc o).cell? ⟨wr.heap.size + 1, 2, none⟩ = some (.int .u32 LO) := fun o => (Grew.alloc (Grew.refl (fun _ => False) w1) o).cell (fun h => h) x2
      have HL := hide (And.intro hlook hlen)
      clear hpos' hlook hlen hG1 hWr hlt3 GA hrow1 hC1 hpos hrow hG hGr hg hs2 hr ha hb hgood2 hz
      clear m0 m1 m2 m3 m4 wK2 d0 d1 d2 d3 d4 d5 hdi hLA' hLO' hcq2
      cases odd with
      | true =>
        go_upto_region 24 with fail
        go_region
        go_upto_region 28 with fail
        refine wp_cut (fun x wx => ∃ l, CF (.slice (some ⟨bb, oo, none⟩) n cap0) n w.heap.size (T + (sq : Int) * 30000000) i (wr.heap.size + 1) cq a' b' ok A w1.heap.size (.float .f64 0) (.float .f64 0) (.bool false) x l ∧ nth l 98 = .bool (near (T + (sq : Int) * 30000000) (cq : Int) (G A).f0.t (G A).f0.c) ∧ AfterB true LA LO w wr w1 L' G A (setF true (G A) ⟨T + (sq : Int) * 30000000, true, LA, LO, (cq : Int)⟩) (G A).f0 wx) ?rest ?first
        case first =>
          intro _ _ _ _
          have GX : ∀ (o : Obj) (v1 v2 v3 v4 v5 : Value) (i1 i2 i3 i4 i5 : Nat), Grew (fun b => b = w.heap.size + 1) (w1.alloc o) ((((((w1.alloc o).setCell ⟨w.heap.size + 1, i1, none⟩ v1).setCell ⟨w.heap.size + 1, i2, none⟩ v2).setCell ⟨w.heap.size + 1, i3, none⟩ v3).setCell ⟨w.heap.size + 1, i4, none⟩ v4).setCell ⟨w.heap.size + 1, i5, none⟩ v5).drew := fun o v1 v2 v3 v4 v5 i1 i2 i3 i4 i5 =>
            ((((((Grew.refl (fun b => b = w.heap.size + 1) _).setCell (a := ⟨w.heap.size + 1, i1, none⟩) (fun _ => rfl) _).setCell (a := ⟨w.heap.size + 1, i2, none⟩) (fun _ => rfl) _).setCell (a := ⟨w.heap.size + 1, i3, none⟩) (fun _ => rfl) _).setCell (a := ⟨w.heap.size + 1, i4, none⟩) (fun _ => rfl) _).setCell (a := ⟨w.heap.size + 1, i5, none⟩) (fun _ => rfl) _).drew
          by_cases hcc : (G A).f0.c = (cq : Int)
          case pos =>
            go_wp2_with fail
            refine (zzsince_any _ _ _).mono ?_
            rintro e w3 ⟨rfl, rfl⟩
            go_wp2_with fail
            refine Met.intro ?_
            go_step
            refine ⟨_, ⟨_, _, _, _, _, _, _, rfl, rfl⟩, by show Value.bool _ = _; rw [hcc, near_same], afterB_of (unhide HA) hwr hw5 ?_ (GX _ _ _ _ _ _ _ _ _ _ _)⟩
            exact frame_true ((Grew.alloc (Grew.refl (fun _ => False) w1) _).row (fun h => h) (unhide HA).2.1)
          case neg =>
            go_wp2_with fail
            refine Met.intro ?_
            go_step
            refine ⟨_, ⟨_, _, _, _, _, _, _, rfl, rfl⟩, by show Value.bool _ = _; rw [near_false hcc], afterB_of (unhide HA) hwr hw5 ?_ (GX _ _ _ _ _ _ _ _ _ _ _)⟩
            exact frame_true ((Grew.alloc (Grew.refl (fun _ => False) w1) _).row (fun h => h) (unhide HA).2.1)
        case rest =>
          clear q0 q1 q2 q3 q4 q5 q6 q7 q8 q9 q10 q11 q12 q13 r0 r1 r2 r3 r4 r5 r6 r7 r8 r9 r10 r11 r12 r13 fz x0 x1 x2 z0 z1 z2 hodd
          have hw1 : w.heap.size + 1 < w1.heap.size := (unhide HA).2.1.lt
          clear HA
          intro x wc hcut
          obtain ⟨l, ⟨u2, u7, u8, u11, u15, u17, u19, ha, hl⟩, hv, hB⟩ := hcut
          rw [open179 hl, hv] at ha
          clear hl hv
          subst ha
          try dsimp only
          have y0 := hB.2.2.1.c0
          have y1 := hB.2.2.1.c1
          have y2 := hB.2.2.1.c2
          have v0 := hB.2.2.2.1.c0
          have v1 := hB.2.2.2.1.c1
          have v2 := hB.2.2.2.1.c2
          have HB := hide hB
          clear hB
          go_upto_if 124 with fail
          refine wp_cut (fun x wx => ∃ l, CF (.slice (some ⟨bb, oo, none⟩) n cap0) n w.heap.size (T + (sq : Int) * 30000000) i (wr.heap.size + 1) cq a' b' ok A w1.heap.size (.float .f64 ga) (.float .f64 go) (.bool gk) x l ∧ AfterB true LA LO w wr w1 L' G A s2 (G A).f0 wx) ?rest ?first
          case first =>
            intro _ _ _ _
            obtain ⟨hg, hs2, _⟩ := unhide HS
            cases hn : near (T + (sq : Int) * 30000000) (cq : Int) (G A).f0.t (G A).f0.c with
            | true =>
              have hg' : globalF true LA LO (G A).f0.o (G A).f0.la (G A).f0.lo = some (ga, go, gk) := by
                exact pickG_true rfl hg hn
              have HG' := hide hg'
              have HS2 := hide hs2
              clear hg hs2 hg'
              go_wp2_with fail
              refine (global_any true (G A).f0.o LA LO (G A).f0.la (G A).f0.lo ga go gk (unhide HG') _ (unhide HB).2.2.2.2.1).mono ?_
              rintro e w3 ⟨rfl, hG3⟩
              have hB3 := (unhide HB).grew hG3
              have k10 := hB3.cellA hA3 10 (by decide)
              have k11 := hB3.cellA hA3 11 (by decide)
              have k12 := hB3.cellA hA3 12 (by decide)
              have k13 := hB3.cellA hA3 13 (by decide)
              have kf := hB3.2.1.frozen
              simp only [stc] at k10 k11 k12 k13
              have HB3 := hide hB3
              clear hB3 hG3
              cases gk with
              | true =>
                go_wp2_with fail
                refine Met.intro ?_
                go_step
                have e2 := unhide HS2
                simp only [if_true] at e2
                rw [← e2]
                exact ⟨_, ⟨_, _, _, _, _, _, _, rfl, rfl⟩, (unhide HB3).fix hwr hw1 hw5 ga go _ _⟩
              | false =>
                go_wp2_with fail
                refine Met.intro ?_
                go_step
                have e2 := unhide HS2
                simp only [Bool.false_eq_true, if_false] at e2
                rw [← e2]
                exact ⟨_, ⟨_, _, _, _, _, _, _, rfl, rfl⟩, unhide HB3⟩
            | false =>
              have hg' : (some (0, 0, false) : Option (Nat × Nat × Bool)) = some (ga, go, gk) := by
                exact pickG_false rfl hg hn
              simp only [Option.some.injEq, Prod.mk.injEq] at hg'
              obtain ⟨rfl, rfl, rfl⟩ := hg'
              simp only [Bool.false_eq_true, if_false] at hs2
              have HS2 := hide hs2
              clear hg hs2
              go_wp2_with fail
              refine Met.intro ?_
              go_step
              rw [← unhide HS2]
              exact ⟨_, ⟨_, _, _, _, _, _, _, rfl, rfl⟩, unhide HB⟩
          case rest =>
            clear HB y0 y1 y2 v0 v1 v2
            intro x wc hcut
            obtain ⟨l, ⟨u2, u7, u8, u11, u15, u17, u19, ha, hl⟩, hB⟩ := hcut
            rw [open179 hl] at ha
            clear hl
            subst ha
            try dsimp only
            have k12 := hB.cellA hA3 12 (by decide)
            have k13 := hB.cellA hA3 13 (by decide)
            simp only [stc] at k12 k13
            have HB := hide hB
            clear hB
            go_upto_region 35 with fail
            refine wp_cut (fun x wx => ∃ l, CF (.slice (some ⟨bb, oo, none⟩) n cap0) n w.heap.size (T + (sq : Int) * 30000000) i (wr.heap.size + 1) cq a' b' ok A w1.heap.size (.float .f64 ga) (.float .f64 go) (.bool gk) x l ∧ nth l 141 = .bool (!gk && near (T + (sq : Int) * 30000000) (cq : Int) s2.fx.t s2.fx.c) ∧ AfterB true LA LO w wr w1 L' G A s2 (G A).f0 wx) ?rest ?first
            case first =>
              intro _ _ _ _
              cases gk with
              | true =>
                go_wp2_with fail
                refine Met.intro ?_
                go_step
                exact ⟨_, ⟨_, _, _, _, _, _, _, rfl, rfl⟩, rfl, unhide HB⟩
              | false =>
                by_cases hcc : s2.fx.c = (cq : Int)
                case pos =>
                  go_wp2_with fail
                  refine (zzsince_any _ _ _).mono ?_
                  rintro e w3 ⟨rfl, rfl⟩
                  go_wp2_with fail
                  refine Met.intro ?_
                  go_step
                  exact ⟨_, ⟨_, _, _, _, _, _, _, rfl, rfl⟩, by show Value.bool _ = _; rw [hcc, near_same]; rfl, unhide HB⟩
                case neg =>
                  go_wp2_with fail
                  refine Met.intro ?_
                  go_step
                  exact ⟨_, ⟨_, _, _, _, _, _, _, rfl, rfl⟩, by show Value.bool _ = _; rw [near_false hcc]; rfl, unhide HB⟩
            case rest =>
              clear HB k12 k13
              intro x wc hcut
              obtain ⟨l, ⟨u2, u7, u8, u11, u15, u17, u19, ha, hl⟩, hv, hB⟩ := hcut
              rw [open179 hl, hv] at ha
              clear hl hv
              subst ha
              try dsimp only
              have y0 := hB.2.2.1.c0
              have y1 := hB.2.2.1.c1
              have y2 := hB.2.2.1.c2
              have k10 := hB.cellA hA3 10 (by decide)
              have k11 := hB.cellA hA3 11 (by decide)
              simp only [stc] at k10 k11
              have HB := hide hB
              clear hB
              go_upto_if 167 with fail
              refine wp_cut (fun x wx => ∃ l, CF (.slice (some ⟨bb, oo, none⟩) n cap0) n w.heap.size (T + (sq : Int) * 30000000) i (wr.heap.size + 1) cq a' b' ok A w1.heap.size (.float .f64 a) (.float .f64 b) (.bool ok) x l ∧ AfterB true LA LO w wr w1 L' G A s2 (G A).f0 wx) ?rest ?first
              case first =>
                intro _ _ _ _
                obtain ⟨_, _, hr, _⟩ := unhide HS
                cases hn : (!gk && near (T + (sq : Int) * 30000000) (cq : Int) s2.fx.t s2.fx.c) with
                | true =>
                  have hr' : localF true LA LO s2.fx.la s2.fx.lo = some (a, b, ok) := pickL_true hr hn
                  have HR := hide hr'
                  clear hr hr'
                  go_wp2_with fail
                  go_region_held3 (fun w' => w'.cell? ⟨wr.heap.size + 1, 0, none⟩ = some (.bool true) ∧ w'.cell? ⟨wr.heap.size + 1, 1, none⟩ = some (.int .u32 LA) ∧ w'.cell? ⟨wr.heap.size + 1, 2, none⟩ = some (.int .u32 LO) ∧ w'.cell? ⟨w.heap.size + 1, A * 14 + 10, none⟩ = some (.float .f64 s2.fx.la) ∧ w'.cell? ⟨w.heap.size + 1, A * 14 + 11, none⟩ = some (.float .f64 s2.fx.lo))
                    (first | exact ⟨y0, y1, y2, k10, k11⟩ | exact ⟨hG3.cell (fun h => h) y0, hG3.cell (fun h => h) y1, hG3.cell (fun h => h) y2, hG3.cell (fun h => h) k10, hG3.cell (fun h => h) k11⟩)
                    (first | (go_at_call 7; refine (local_any true LA LO s2.fx.la s2.fx.lo a b ok (unhide HR) _ (unhide HB).2.2.2.2.1.drew).mono ?_; rintro e w3 ⟨rfl, hG3⟩))
                  all_goals (
                    go_wp2_with fail
                    refine Met.intro ?_
                    go_step
                    exact ⟨_, ⟨_, _, _, _, _, _, _, rfl, rfl⟩, ((unhide HB).grew (Grew.drew (Grew.refl _ _))).grew hG3⟩)
                | false =>
                  have hr' : some (ga, go, gk) = some (a, b, ok) := pickL_false hr hn
                  simp only [Option.some.injEq, Prod.mk.injEq] at hr'
                  obtain ⟨e1, e2, e3⟩ := hr'
                  subst e1
                  subst e2
                  subst e3
                  clear hr
                  go_wp2_with fail
                  refine Met.intro ?_
                  go_step
                  exact ⟨_, ⟨_, _, _, _, _, _, _, rfl, rfl⟩, unhide HB⟩
              case rest =>
                clear HB y0 y1 y2 k10 k11
                intro x wc hcut
                obtain ⟨l, ⟨u2, u7, u8, u11, u15, u17, u19, ha, hl⟩, hB⟩ := hcut
                rw [open179 hl] at ha
                clear hl
                subst ha
                try dsimp only
                obtain ⟨_, _, _, ha, hb, hgood2, hz⟩ := unhide HS
                obtain ⟨hlook, hlen⟩ := unhide HL
                have HN := hide (inv_next hin hA3 hT0 hT1 hsq8 hL (unhide HI).2.2.1 hgood2 hlook hlen hB)
                have HM := hide (show n - (intOf (Value.int IntKind.i64 ((i : Int) + 1))).toNat < n - (intOf (Value.int IntKind.i64 (i : Int))).toNat by show n - ((i : Int) + 1).toNat < n - (i : Int).toNat; omega)
                have HE := hide (show Value.int IntKind.i64 ((i : Int) + 1) = Value.int IntKind.i64 ((i + 1 : Nat) : Int) by simp)
                have h00 := ord00
                clear hB hlook hlen hgood2 HS HL HI HgA
                cases ok with
                | false =>
                  obtain ⟨rfl, rfl⟩ := hz rfl
                  go_wp2_with fail
                  exact ⟨⟨_, _, _, _, _, _, _, _, _, _, _, _, _, _, _, _, _, _, _, _, rfl, rfl, i + 1, T + (sq : Int) * 30000000, L', setG G A s2, unhide HE, rfl, unhide HN⟩, lt_of (by kernel_rfl) (by kernel_rfl) (unhide HM)⟩
                | true =>
                  clear hz
                  go_wp2_with fail
                  refine (around_any a a' ha _).mono ?_
                  rintro e w3 ⟨rfl, rfl⟩
                  go_wp2_with fail
                  refine (eq_same a' _).mono ?_
                  rintro e w3 ⟨rfl, rfl⟩
                  go_wp2_with fail
                  refine (around_any b b' hb _).mono ?_
                  rintro e w3 ⟨rfl, rfl⟩
                  go_wp2_with fail
                  refine (eq_same b' _).mono ?_
                  rintro e w3 ⟨rfl, rfl⟩
                  go_wp2_with fail
                  exact ⟨⟨_, _, _, _, _, _, _, _, _, _, _, _, _, _, _, _, _, _, _, _, rfl, rfl, i + 1, T + (sq : Int) * 30000000, L', setG G A s2, unhide HE, rfl, unhide HN⟩, lt_of (by kernel_rfl) (by kernel_rfl) (unhide HM)⟩
      | false =>
        go_upto_region 24 with fail
        go_region
        go_upto_region 28 with fail
        refine wp_cut (fun x wx => ∃ l, CF (.slice (some ⟨bb, oo, none⟩) n cap0) n w.heap.size (T + (sq : Int) * 30000000) i (wr.heap.size + 1) cq a' b' ok A w1.heap.size (.float .f64 0) (.float .f64 0) (.bool false) x l ∧ nth l 98 = .bool (near (T + (sq : Int) * 30000000) (cq : Int) (G A).f1.t (G A).f1.c) ∧ AfterB false LA LO w wr w1 L' G A (setF false (G A) ⟨T + (sq : Int) * 30000000, false, LA, LO, (cq : Int)⟩) (G A).f1 wx) ?rest ?first
        case first =>
          intro _ _ _ _
          have GX : ∀ (o : Obj) (v1 v2 v3 v4 v5 : Value) (i1 i2 i3 i4 i5 : Nat), Grew (fun b => b = w.heap.size + 1) (w1.alloc o) ((((((w1.alloc o).setCell ⟨w.heap.size + 1, i1, none⟩ v1).setCell ⟨w.heap.size + 1, i2, none⟩ v2).setCell ⟨w.heap.size + 1, i3, none⟩ v3).setCell ⟨w.heap.size + 1, i4, none⟩ v4).setCell ⟨w.heap.size + 1, i5, none⟩ v5).drew := fun o v1 v2 v3 v4 v5 i1 i2 i3 i4 i5 =>
            ((((((Grew.refl (fun b => b = w.heap.size + 1) _).setCell (a := ⟨w.heap.size + 1, i1, none⟩) (fun _ => rfl) _).setCell (a := ⟨w.heap.size + 1, i2, none⟩) (fun _ => rfl) _).setCell (a := ⟨w.heap.size + 1, i3, none⟩) (fun _ => rfl) _).setCell (a := ⟨w.heap.size + 1, i4, none⟩) (fun _ => rfl) _).setCell (a := ⟨w.heap.size + 1, i5, none⟩) (fun _ => rfl) _).drew
          by_cases hcc : (G A).f1.c = (cq : Int)
          case pos =>
            go_wp2_with fail
            refine (zzsince_any _ _ _).mono ?_
            rintro e w3 ⟨rfl, rfl⟩
            go_wp2_with fail
            refine Met.intro ?_
            go_step
            refine ⟨_, ⟨_, _, _, _, _, _, _, rfl, rfl⟩, by show Value.bool _ = _; rw [hcc, near_same], afterB_of (unhide HA) hwr hw5 ?_ (GX _ _ _ _ _ _ _ _ _ _ _)⟩
            exact frame_false ((Grew.alloc (Grew.refl (fun _ => False) w1) _).row (fun h => h) (unhide HA).2.1)
          case neg =>
            go_wp2_with fail
            refine Met.intro ?_
            go_step
            refine ⟨_, ⟨_, _, _, _, _, _, _, rfl, rfl⟩, by show Value.bool _ = _; rw [near_false hcc], afterB_of (unhide HA) hwr hw5 ?_ (GX _ _ _ _ _ _ _ _ _ _ _)⟩
            exact frame_false ((Grew.alloc (Grew.refl (fun _ => False) w1) _).row (fun h => h) (unhide HA).2.1)
        case rest =>
          clear q0 q1 q2 q3 q4 q5 q6 q7 q8 q9 q10 q11 q12 q13 r0 r1 r2 r3 r4 r5 r6 r7 r8 r9 r10 r11 r12 r13 fz x0 x1 x2 z0 z1 z2 hodd
          have hw1 : w.heap.size + 1 < w1.heap.size := (unhide HA).2.1.lt
          clear HA
          intro x wc hcut
          obtain ⟨l, ⟨u2, u7, u8, u11, u15, u17, u19, ha, hl⟩, hv, hB⟩ := hcut
          rw [open179 hl, hv] at ha
          clear hl hv
          subst ha
          try dsimp only
          have y0 := hB.2.2.1.c0
          have y1 := hB.2.2.1.c1
          have y2 := hB.2.2.1.c2
          have v0 := hB.2.2.2.1.c0
          have v1 := hB.2.2.2.1.c1
          have v2 := hB.2.2.2.1.c2
          have HB := hide hB
          clear hB
          go_upto_if 124 with fail
          refine wp_cut (fun x wx => ∃ l, CF (.slice (some ⟨bb, oo, none⟩) n cap0) n w.heap.size (T + (sq : Int) * 30000000) i (wr.heap.size + 1) cq a' b' ok A w1.heap.size (.float .f64 ga) (.float .f64 go) (.bool gk) x l ∧ AfterB false LA LO w wr w1 L' G A s2 (G A).f1 wx) ?rest ?first
          case first =>
            intro _ _ _ _
            obtain ⟨hg, hs2, _⟩ := unhide HS
            cases hn : near (T + (sq : Int) * 30000000) (cq : Int) (G A).f1.t (G A).f1.c with
            | true =>
              have hg' : globalF false LA LO (G A).f1.o (G A).f1.la (G A).f1.lo = some (ga, go, gk) := by
                exact pickG_true rfl hg hn
              have HG' := hide hg'
              have HS2 := hide hs2
              clear hg hs2 hg'
              go_wp2_with fail
              refine (global_any false (G A).f1.o LA LO (G A).f1.la (G A).f1.lo ga go gk (unhide HG') _ (unhide HB).2.2.2.2.1).mono ?_
              rintro e w3 ⟨rfl, hG3⟩
              have hB3 := (unhide HB).grew hG3
              have k10 := hB3.cellA hA3 10 (by decide)
              have k11 := hB3.cellA hA3 11 (by decide)
              have k12 := hB3.cellA hA3 12 (by decide)
              have k13 := hB3.cellA hA3 13 (by decide)
              have kf := hB3.2.1.frozen
              simp only [stc] at k10 k11 k12 k13
              have HB3 := hide hB3
              clear hB3 hG3
              cases gk with
              | true =>
                go_wp2_with fail
                refine Met.intro ?_
                go_step
                have e2 := unhide HS2
                simp only [if_true] at e2
                rw [← e2]
                exact ⟨_, ⟨_, _, _, _, _, _, _, rfl, rfl⟩, (unhide HB3).fix hwr hw1 hw5 ga go _ _⟩
              | false =>
                go_wp2_with fail
                refine Met.intro ?_
                go_step
                have e2 := unhide HS2
                simp only [Bool.false_eq_true, if_false] at e2
                rw [← e2]
                exact ⟨_, ⟨_, _, _, _, _, _, _, rfl, rfl⟩, unhide HB3⟩
            | false =>
              have hg' : (some (0, 0, false) : Option (Nat × Nat × Bool)) = some (ga, go, gk) := by
                exact pickG_false rfl hg hn
              simp only [Option.some.injEq, Prod.mk.injEq] at hg'
              obtain ⟨rfl, rfl, rfl⟩ := hg'
              simp only [Bool.false_eq_true, if_false] at hs2
              have HS2 := hide hs2
              clear hg hs2
              go_wp2_with fail
              refine Met.intro ?_
              go_step
              rw [← unhide HS2]
              exact ⟨_, ⟨_, _, _, _, _, _, _, rfl, rfl⟩, unhide HB⟩
          case rest =>
            clear HB y0 y1 y2 v0 v1 v2
            intro x wc hcut
            obtain ⟨l, ⟨u2, u7, u8, u11, u15, u17, u19, ha, hl⟩, hB⟩ := hcut
            rw [open179 hl] at ha
            clear hl
            subst ha
            try dsimp only
            have k12 := hB.cellA hA3 12 (by decide)
            have k13 := hB.cellA hA3 13 (by decide)
            simp only [stc] at k12 k13
            have HB := hide hB
            clear hB
            go_upto_region 35 with fail
            refine wp_cut (fun x wx => ∃ l, CF (.slice (some ⟨bb, oo, none⟩) n cap0) n w.heap.size (T + (sq : Int) * 30000000) i (wr.heap.size + 1) cq a' b' ok A w1.heap.size (.float .f64 ga) (.float .f64 go) (.bool gk) x l ∧ nth l 141 = .bool (!gk && near (T + (sq : Int) * 30000000) (cq : Int) s2.fx.t s2.fx.c) ∧ AfterB false LA LO w wr w1 L' G A s2 (G A).f1 wx) ?rest ?first
            case first =>
              intro _ _ _ _
              cases gk with
              | true =>
                go_wp2_with fail
                refine Met.intro ?_
                go_step
                exact ⟨_, ⟨_, _, _, _, _, _, _, rfl, rfl⟩, rfl, unhide HB⟩
              | false =>
                by_cases hcc : s2.fx.c = (cq : Int)
                case pos =>
                  go_wp2_with fail
                  refine (zzsince_any _ _ _).mono ?_
                  rintro e w3 ⟨rfl, rfl⟩
                  go_wp2_with fail
                  refine Met.intro ?_
                  go_step
                  exact ⟨_, ⟨_, _, _, _, _, _, _, rfl, rfl⟩, by show Value.bool _ = _; rw [hcc, near_same]; rfl, unhide HB⟩
                case neg =>
                  go_wp2_with fail
                  refine Met.intro ?_
                  go_step
                  exact ⟨_, ⟨_, _, _, _, _, _, _, rfl, rfl⟩, by show Value.bool _ = _; rw [near_false hcc]; rfl, unhide HB⟩
            case rest =>
              clear HB k12 k13
              intro x wc hcut
              obtain ⟨l, ⟨u2, u7, u8, u11, u15, u17, u19, ha, hl⟩, hv, hB⟩ := hcut
              rw [open179 hl, hv] at ha
              clear hl hv
              subst ha
              try dsimp only
              have y0 := hB.2.2.1.c0
              have y1 := hB.2.2.1.c1
              have y2 := hB.2.2.1.c2
              have k10 := hB.cellA hA3 10 (by decide)
              have k11 := hB.cellA hA3 11 (by decide)
              simp only [stc] at k10 k11
              have HB := hide hB
              clear hB
              go_upto_if 167 with fail
              refine wp_cut (fun x wx => ∃ l, CF (.slice (some ⟨bb, oo, none⟩) n cap0) n w.heap.size (T + (sq : Int) * 30000000) i (wr.heap.size + 1) cq a' b' ok A w1.heap.size (.float .f64 a) (.float .f64 b) (.bool ok) x l ∧ AfterB false LA LO w wr w1 L' G A s2 (G A).f1 wx) ?rest ?first
              case first =>
                intro _ _ _ _
                obtain ⟨_, _, hr, _⟩ := unhide HS
                cases hn : (!gk && near (T + (sq : Int) * 30000000) (cq : Int) s2.fx.t s2.fx.c) with
                | true =>
                  have hr' : localF false LA LO s2.fx.la s2.fx.lo = some (a, b, ok) := pickL_true hr hn
                  have HR := hide hr'
                  clear hr hr'
                  go_wp2_with fail
                  go_region_held3 (fun w' => w'.cell? ⟨wr.heap.size + 1, 0, none⟩ = some (.bool false) ∧ w'.cell? ⟨wr.heap.size + 1, 1, none⟩ = some (.int .u32 LA) ∧ w'.cell? ⟨wr.heap.size + 1, 2, none⟩ = some (.int .u32 LO) ∧ w'.cell? ⟨w.heap.size + 1, A * 14 + 10, none⟩ = some (.float .f64 s2.fx.la) ∧ w'.cell? ⟨w.heap.size + 1, A * 14 + 11, none⟩ = some (.float .f64 s2.fx.lo))
                    (first | exact ⟨y0, y1, y2, k10, k11⟩ | exact ⟨hG3.cell (fun h => h) y0, hG3.cell (fun h => h) y1, hG3.cell (fun h => h) y2, hG3.cell (fun h => h) k10, hG3.cell (fun h => h) k11⟩)
                    (first | (go_at_call 7; refine (local_any false LA LO s2.fx.la s2.fx.lo a b ok (unhide HR) _ (unhide HB).2.2.2.2.1.drew).mono ?_; rintro e w3 ⟨rfl, hG3⟩))
                  all_goals (
                    go_wp2_with fail
                    refine Met.intro ?_
                    go_step
                    exact ⟨_, ⟨_, _, _, _, _, _, _, rfl, rfl⟩, ((unhide HB).grew (Grew.drew (Grew.refl _ _))).grew hG3⟩)
                | false =>
                  have hr' : some (ga, go, gk) = some (a, b, ok) := pickL_false hr hn
                  simp only [Option.some.injEq, Prod.mk.injEq] at hr'
                  obtain ⟨e1, e2, e3⟩ := hr'
                  subst e1
                  subst e2
                  subst e3
                  clear hr
                  go_wp2_with fail
                  refine Met.intro ?_
                  go_step
                  exact ⟨_, ⟨_, _, _, _, _, _, _, rfl, rfl⟩, unhide HB⟩
              case rest =>
                clear HB y0 y1 y2 k10 k11
                intro x wc hcut
                obtain ⟨l, ⟨u2, u7, u8, u11, u15, u17, u19, ha, hl⟩, hB⟩ := hcut
                rw [open179 hl] at ha
                clear hl
                subst ha
                try dsimp only
                obtain ⟨_, _, _, ha, hb, hgood2, hz⟩ := unhide HS
                obtain ⟨hlook, hlen⟩ := unhide HL
                have HN := hide (inv_next hin hA3 hT0 hT1 hsq8 hL (unhide HI).2.2.1 hgood2 hlook hlen hB)
                have HM := hide (show n - (intOf (Value.int IntKind.i64 ((i : Int) + 1))).toNat < n - (intOf (Value.int IntKind.i64 (i : Int))).toNat by show n - ((i : Int) + 1).toNat < n - (i : Int).toNat; omega)
                have HE := hide (show Value.int IntKind.i64 ((i : Int) + 1) = Value.int IntKind.i64 ((i + 1 : Nat) : Int) by simp)
                have h00 := ord00
                clear hB hlook hlen hgood2 HS HL HI HgA
                cases ok with
                | false =>
                  obtain ⟨rfl, rfl⟩ := hz rfl
                  go_wp2_with fail
                  exact ⟨⟨_, _, _, _, _, _, _, _, _, _, _, _, _, _, _, _, _, _, _, _, rfl, rfl, i + 1, T + (sq : Int) * 30000000, L', setG G A s2, unhide HE, rfl, unhide HN⟩, lt_of (by kernel_rfl) (by kernel_rfl) (unhide HM)⟩
                | true =>
                  clear hz
                  go_wp2_with fail
                  refine (around_any a a' ha _).mono ?_
                  rintro e w3 ⟨rfl, rfl⟩
                  go_wp2_with fail
                  refine (eq_same a' _).mono ?_
                  rintro e w3 ⟨rfl, rfl⟩
                  go_wp2_with fail
                  refine (around_any b b' hb _).mono ?_
                  rintro e w3 ⟨rfl, rfl⟩
                  go_wp2_with fail
                  refine (eq_same b' _).mono ?_
                  rintro e w3 ⟨rfl, rfl⟩
                  go_wp2_with fail
                  exact ⟨⟨_, _, _, _, _, _, _, _, _, _, _, _, _, _, _, _, _, _, _, _, rfl, rfl, i + 1, T + (sq : Int) * 30000000, L', setG G A s2, unhide HE, rfl, unhide HN⟩, lt_of (by kernel_rfl) (by kernel_rfl) (unhide HM)⟩


set_option maxHeartbeats 4000000 in
set_option maxRecDepth 100000 in
theorem law_long (a0 : Option Addr) (n cap0 : Nat) (w : World) (hn : 512 < n) :
    Calls Ybad.prog 3 #[.slice a0 n cap0] w fun e w' => e = .returned (.bool true) ∧ Below w.heap.size w w' := by
  have hd : decide ((512 : Int) < (n : Int)) = true := by simp; omega
  have hb : Below w.heap.size w w := Below.refl _ _
  go_enter Ybad.func3, Ybad.ntmps3
  go_wp2_with fail
  go_ret
  exact ⟨rfl, hb⟩

end Go.Proofs.YbulkcyuwDoor
