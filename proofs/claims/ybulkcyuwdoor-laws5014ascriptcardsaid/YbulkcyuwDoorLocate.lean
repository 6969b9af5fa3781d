/-
  (*positionMemory).locate (4).
-/
import Derived.Test.YbulkcyuwDoorPut
namespace Go.Proofs.YbulkcyuwDoor
open Go.RowKit
attribute [local go_sem] run_store_float

/-- The memory of positions: its map is there. -/
def Pos (P M m1 m2 : Nat) (L : List (Int × St × Nat)) (w : World) : Prop := w.heap[P]? = some (.cells #[.pointer (some ⟨M, 0, none⟩)] 25) ∧ RecAt M m1 m2 L w
/-- .. or it is not there yet. -/
def PosAny (B P : Nat) (L : List (Int × St × Nat)) (w : World) : Prop := (w.heap[P]? = some (.cells #[.pointer none] 25) ∧ L = []) ∨ ∃ M m1 m2, Pos P M m1 m2 L w ∧ B ≤ m1
theorem Pos.pc {P M m1 m2 : Nat} {L : List (Int × St × Nat)} {w : World} (h : Pos P M m1 m2 L w) : w.cell? ⟨P, 0, none⟩ = some (.pointer (some ⟨M, 0, none⟩)) := by simp [World.cell?, h.1]
theorem Pos.grew {S : Nat → Prop} {P M m1 m2 : Nat} {L : List (Int × St × Nat)} {w w' : World} (h : Pos P M m1 m2 L w) (g : Grew S w w') (h0 : ¬ S P) (h1 : ¬ S M) (h2 : ¬ S m1) (h3 : ¬ S m2) : Pos P M m1 m2 L w' :=
  ⟨(g.block P (heap_lt h.1) h0).trans h.1, h.2.grew g h1 h2 h3⟩

/-- A time, in a block. -/
def Tm (b : Nat) (t c : Int) (w : World) : Prop := w.heap[b]? = some (.cells #[.int .i64 t, .int .u8 c] 40)
theorem Tm.c0 {b : Nat} {t c : Int} {w : World} (h : Tm b t c w) : w.cell? ⟨b, 0, none⟩ = some (.int .i64 t) := by unfold Tm at h; simp [World.cell?, h]
theorem Tm.c1 {b : Nat} {t c : Int} {w : World} (h : Tm b t c w) : w.cell? ⟨b, 1, none⟩ = some (.int .u8 c) := by unfold Tm at h; simp [World.cell?, h]
theorem Tm.grew {S : Nat → Prop} {b : Nat} {t c : Int} {w w' : World} (h : Tm b t c w) (g : Grew S w w') (hb : ¬ S b) : Tm b t c w' := (g.block b (heap_lt h) hb).trans h

def Fr.vals (f : Fr) : Array Value := #[.int .i64 f.t, .bool f.o, .int .u32 f.la, .int .u32 f.lo, .int .u8 f.c]
def otherF (odd : Bool) (s : St) : Fr := if odd then s.f0 else s.f1
def setF (odd : Bool) (s : St) (f : Fr) : St := if odd then { s with f1 := f } else { s with f0 := f }

theorem frozen_of_block {w w' : World} {b i : Nat} (h : w'.heap[b]? = w.heap[b]?) (hf : w.frozen? ⟨b, i, none⟩ = false) : w'.frozen? ⟨b, i, none⟩ = false := by
  rw [← hf]; simp only [World.frozen?, h]
theorem Tm.new {b : Nat} {t c : Int} {w : World} (hb : b = w.heap.size) : Tm b t c (w.alloc (.cells #[.int .i64 t, .int .u8 c] 40)) := by
  subst hb; exact alloc_last w _
theorem Pos.set {P M m1 m2 : Nat} {L : List (Int × St × Nat)} {p : Option Addr} {w : World} (h : w.heap[P]? = some (.cells #[.pointer p] 25)) (hR : RecAt M m1 m2 L w) : Pos P M m1 m2 L (w.setCell ⟨P, 0, none⟩ (.pointer (some ⟨M, 0, none⟩))) := by
  obtain ⟨hm, ⟨k1, g1⟩, ⟨k2, g2⟩, hne⟩ := hR
  refine ⟨cells_set h, ?_, ⟨k1, ?_⟩, ⟨k2, ?_⟩, hne⟩
  · refine (Below.heap_setCell _ _ _ _ ?_).trans hm
    rintro rfl; rw [hm] at h; cases h
  · refine (Below.heap_setCell _ _ _ _ ?_).trans g1
    rintro rfl; unfold MapAt at g1; rw [g1] at h; cases h
  · refine (Below.heap_setCell _ _ _ _ ?_).trans g2
    rintro rfl; unfold MapAt at g2; rw [g2] at h; cases h
/-- What holds once the map is there. -/
def Ready (B P : Nat) (odd : Bool) (la lo : Nat) (t c : Int) (L : List (Int × St × Nat)) (w wx : World) : Prop :=
  ∃ M m1 m2, Pos P M m1 m2 L wx ∧ B ≤ m1 ∧ Cpr w.heap.size odd la lo wx ∧ Tm (w.heap.size + 1) t c wx ∧ Grew (fun b => b = P) w wx

/-- The aircraft's block; the other frame's block; the fix's block. -/
def Ac (b : Nat) (s : St) (w : World) : Prop := w.heap[b]? = some (.cells (acA s) 58)
def Ot (b : Nat) (f : Fr) (w : World) : Prop := w.heap[b]? = some (.cells f.vals 53)
theorem Ac.grew {S : Nat → Prop} {b : Nat} {s : St} {w w' : World} (h : Ac b s w) (g : Grew S w w') (hb : ¬ S b) : Ac b s w' := (g.block b (heap_lt h) hb).trans h
theorem Ot.grew {S : Nat → Prop} {b : Nat} {s : Fr} {w w' : World} (h : Ot b s w) (g : Grew S w w') (hb : ¬ S b) : Ot b s w' := (g.block b (heap_lt h) hb).trans h

/-- What holds behind the first test. -/
def Mem (B P : Nat) (odd : Bool) (la lo : Nat) (t c : Int) (L : List (Int × St × Nat)) (s1 : St) (A O : Nat) (f : Fr) (w wx : World) : Prop :=
  (∃ M m1 m2, Pos P M m1 m2 L wx ∧ B ≤ m1) ∧ Cpr w.heap.size odd la lo wx ∧ Tm (w.heap.size + 1) t c wx ∧ Ac A s1 wx ∧ Ot O f wx ∧ A ≠ P ∧ w.heap.size ≤ A ∧ Grew (fun b => b = P) w wx
def near (t c t0 c0 : Int) : Bool := decide (c0 = c) && decide (sinceV t t0 ≤ 120000000)

def Fxb (b : Nat) (x : Fx) (w : World) : Prop := w.heap[b]? = some (.cells #[.float .f64 x.la, .float .f64 x.lo, .int .i64 x.t, .int .u8 x.c] 56)
theorem Fxb.grew {S : Nat → Prop} {b : Nat} {s : Fx} {w w' : World} (h : Fxb b s w) (g : Grew S w w') (hb : ¬ S b) : Fxb b s w' := (g.block b (heap_lt h) hb).trans h

theorem Mem.grew {B P : Nat} {odd : Bool} {la lo : Nat} {t c : Int} {L : List (Int × St × Nat)} {s1 : St} {A O : Nat} {f : Fr} {w x y : World} (h : Mem B P odd la lo t c L s1 A O f w x) (g : Grew (fun _ => False) x y) : Mem B P odd la lo t c L s1 A O f w y := by
  obtain ⟨⟨M, m1, m2, hP, hm⟩, hC, hT, hA, hO, hne, hle, hG⟩ := h
  exact ⟨⟨M, m1, m2, hP.grew g (fun h => h) (fun h => h) (fun h => h) (fun h => h), hm⟩, hC.grew g (fun h => h), hT.grew g (fun h => h), hA.grew g (fun h => h), hO.grew g (fun h => h), hne, hle, hG.trans g (fun _ _ h => h.elim)⟩
theorem Mem.tabs {B P : Nat} {odd : Bool} {la lo : Nat} {t c : Int} {L : List (Int × St × Nat)} {s1 : St} {A O : Nat} {f : Fr} {w x : World} (h : Mem B P odd la lo t c L s1 A O f w x) (hB : B ≤ P) (hB5 : 5 < B) (hT : Tabs w) : Tabs x :=
  h.2.2.2.2.2.2.2.tabs (fun k hk => by have : k = P := hk; omega) hT

/-- The fix is laid into the aircraft's block. -/
theorem Mem.fix {B P : Nat} {odd : Bool} {la lo : Nat} {t c : Int} {L : List (Int × St × Nat)} {s1 : St} {A O : Nat} {f : Fr} {w x : World} (h : Mem B P odd la lo t c L s1 A O f w x) (g1 g2 : Nat) (hw2 : w.heap.size + 2 ≤ A) :
    Mem B P odd la lo t c L { s1 with fx := ⟨g1, g2, t, c⟩ } A O f w ((((x.setCell ⟨A, 10, none⟩ (.float .f64 g1)).setCell ⟨A, 11, none⟩ (.float .f64 g2)).setCell ⟨A, 12, none⟩ (.int .i64 t)).setCell ⟨A, 13, none⟩ (.int .u8 c)) := by
  obtain ⟨⟨M, m1, m2, hP, hm⟩, hC, hT, hA, hO, hne, hle, hG⟩ := h
  have g : Grew (fun b => b = A) x ((((x.setCell ⟨A, 10, none⟩ (.float .f64 g1)).setCell ⟨A, 11, none⟩ (.float .f64 g2)).setCell ⟨A, 12, none⟩ (.int .i64 t)).setCell ⟨A, 13, none⟩ (.int .u8 c)) :=
    ((((Grew.refl (fun b => b = A) x).setCell (a := ⟨A, 10, none⟩) (fun _ => rfl) _).setCell (a := ⟨A, 11, none⟩) (fun _ => rfl) _).setCell (a := ⟨A, 12, none⟩) (fun _ => rfl) _).setCell (a := ⟨A, 13, none⟩) (fun _ => rfl) _
  have nM : M ≠ A := by rintro rfl; have := hP.2.1; unfold Ac at hA; rw [hA] at this; simp at this
  have n1 : m1 ≠ A := by rintro rfl; obtain ⟨_, ⟨k1, q⟩, _⟩ := hP.2; unfold MapAt at q; unfold Ac at hA; rw [hA] at q; cases q
  have n2 : m2 ≠ A := by rintro rfl; obtain ⟨_, _, ⟨k1, q⟩, _⟩ := hP.2; unfold MapAt at q; unfold Ac at hA; rw [hA] at q; cases q
  have nO : O ≠ A := by rintro rfl; unfold Ot at hO; unfold Ac at hA; rw [hA] at hO; simp at hO
  refine ⟨⟨M, m1, m2, hP.grew g (fun e => hne e.symm) nM n1 n2, hm⟩, hC.grew g (by show ¬ (w.heap.size = A); omega), hT.grew g (by show ¬ (w.heap.size + 1 = A); omega), ?_, hO.grew g nO, hne, hle, hG.trans g (fun i hi e => by have : i = A := e; omega)⟩
  exact cells_set (cells_set (cells_set (cells_set hA)))

theorem near_false {t c t0 c0 : Int} (h : ¬ c0 = c) : near t c t0 c0 = false := by unfold near; rw [decide_eq_false h]; rfl
theorem near_same {t c t0 : Int} : near t c t0 c = decide (sinceV t t0 ≤ 120000000) := by unfold near; simp

theorem locate_fin {B P M n1 n2 : Nat} {L L' : List (Int × St × Nat)} {w wc w4 w6 : World} (hP : Pos P M n1 n2 L wc) (hn1 : B ≤ n1) (hB : B ≤ P) (hG : Grew (fun b => b = P) w wc) (hR : RecAt M n1 n2 L' w4) (hG4 : Grew (fun b => b = n1) wc.drew w4) (hG6 : Grew (fun _ => False) w4 w6) :
    PosAny B P L' w6 ∧ Grew (fun b => B ≤ b ∧ (b = P ∨ ∃ es ck, w.heap[b]? = some (.map es ck))) w w6 := by
  obtain ⟨k1, q1⟩ := hP.2.2.1
  have hne : P ≠ n1 := by rintro rfl; unfold MapAt at q1; rw [hP.1] at q1; cases q1
  have hP4 : w4.heap[P]? = some (.cells #[.pointer (some ⟨M, 0, none⟩)] 25) := (hG4.block P (heap_lt hP.1) hne).trans hP.1
  refine ⟨.inr ⟨M, n1, n2, ⟨(hG6.block P (heap_lt hP4) (fun h => h)).trans hP4, hR.grew hG6 (fun h => h) (fun h => h) (fun h => h)⟩, hn1⟩, ?_⟩
  have G1 : Grew (fun b => B ≤ b ∧ (b = P ∨ ∃ es ck, w.heap[b]? = some (.map es ck))) w wc := hG.mono (fun i _ e => by subst e; exact ⟨hB, .inl rfl⟩)
  have hG4' : Grew (fun b => b = n1) wc w4 := ⟨hG4.os, hG4.tape, hG4.output, hG4.size, hG4.block⟩
  refine (G1.trans hG4' ?_).trans hG6 (fun _ _ h => h.elim)
  intro i hi e
  have e' : i = n1 := e
  subst e'
  have hq : w.heap[i]? = some (.map (L.map toE).toArray k1) := (hG.block i hi (fun e => hne e.symm)).symm.trans q1
  exact ⟨hn1, .inr ⟨_, _, hq⟩⟩
theorem RecAt.drew {M m1 m2 : Nat} {L : List (Int × St × Nat)} {w : World} (h : RecAt M m1 m2 L w) : RecAt M m1 m2 L w.drew := h
theorem rec_ne {M m1 m2 : Nat} {L : List (Int × St × Nat)} {w : World} (h : RecAt M m1 m2 L w) : M ≠ m1 := by
  rintro rfl
  obtain ⟨a, ⟨k, q⟩, _⟩ := h
  unfold MapAt at q; rw [a] at q; cases q

set_option maxHeartbeats 2000000 in
set_option maxRecDepth 100000 in
theorem locate_true (B P : Nat) (k : Int) (la lo : Nat) (t c : Int) (L : List (Int × St × Nat)) (s : St) (hs : (lookL k L).getD stZ = s) (ga go : Nat) (gk : Bool) (hg : (if near t c s.f0.t s.f0.c then globalF true la lo s.f0.o s.f0.la s.f0.lo else some (0, 0, false)) = some (ga, go, gk)) (s2 : St) (hs2 : (if gk then { s with f1 := ⟨t, true, la, lo, c⟩, fx := ⟨ga, go, t, c⟩ } else { s with f1 := ⟨t, true, la, lo, c⟩ }) = s2) (a b : Nat) (ok : Bool) (hr : (if !gk && near t c s2.fx.t s2.fx.c then localF true la lo s2.fx.la s2.fx.lo else some (ga, go, gk)) = some (a, b, ok)) (a' b' : Nat) (ha : roundF a = some a') (hb : roundF b = some b') (w : World) (hB : B ≤ P) (hp : PosAny B P L w) (hT : Tabs w) (hB5 : 5 < B) (hL : L.length < 50000) :
    Calls Ybad.prog 4 #[.pointer (some ⟨P, 0, none⟩), .int .u32 k, cprV true la lo, .agg #[.int .i64 t, .int .u8 c]] w fun e w' => e = .returned (.tuple #[.float .f64 a', .float .f64 b', .bool ok]) ∧ (∃ L', PosAny B P L' w' ∧ (∀ k', lookL k' L' = if k' = k then some s2 else lookL k' L) ∧ L'.length ≤ L.length + 1) ∧ Grew (fun b => B ≤ b ∧ (b = P ∨ ∃ es ck, w.heap[b]? = some (.map es ck))) w w' := by
  unfold cprV
  have HT := hide hT
  clear hT
  go_enter Ybad.func4, Ybad.ntmps4
  have hP : ∃ p, w.heap[P]? = some (.cells #[.pointer p] 25) ∧ ((p = none ∧ L = []) ∨ ∃ M m1 m2, p = some ⟨M, 0, none⟩ ∧ Pos P M m1 m2 L w ∧ B ≤ m1) := by
    rcases hp with ⟨e, h⟩ | ⟨M, m1, m2, e, hb⟩
    · exact ⟨none, e, .inl ⟨rfl, h⟩⟩
    · exact ⟨_, e.1, .inr ⟨M, m1, m2, rfl, e, hb⟩⟩
  obtain ⟨p, hpb, hp'⟩ := hP
  clear hp
  have hpc : w.cell? ⟨P, 0, none⟩ = some (.pointer p) := by simp [World.cell?, hpb]
  have q0 : ∀ o o', ((w.alloc o).alloc o').cell? ⟨P, 0, none⟩ = some (.pointer p) := fun o o' => (Grew.alloc (Grew.alloc (Grew.refl (fun _ => False) w) o) o').cell (fun h => h) hpc
  have hplt := heap_lt hpb
  go_upto_if 20 with fail
  go_cut [] from 21 (fun wx => Ready B P true la lo t c L w wx)
  case first =>
    rcases hp' with ⟨rfl, rfl⟩ | ⟨M, m1, m2, rfl, hPos, hbm⟩
    · go_wp2_with fail
      refine (new_any _).mono ?_
      rintro e w1 ⟨M, m1, m2, rfl, hR, g1, g2, g3, hG⟩
      have hb1 : w1.heap[P]? = some (.cells #[.pointer none] 25) := by
        refine (hG.block P (by rw [World.size_alloc, World.size_alloc]; omega) (fun h => h)).trans ?_
        exact (alloc_old _ _ (by rw [World.size_alloc]; omega)).trans ((alloc_old _ _ hplt).trans hpb)
      have r0 : w1.cell? ⟨P, 0, none⟩ = some (.pointer none) := by simp [World.cell?, hb1]
      have r1 : w1.frozen? ⟨P, 0, none⟩ = false := by simp [World.frozen?, hb1]
      have hC : Cpr w.heap.size true la lo w1 := Cpr.grew ((Cpr.new rfl).alloc _) hG (fun h => h)
      have hTm : Tm (w.heap.size + 1) t c w1 := Tm.grew (Tm.new (by simp [World.size_alloc])) hG (fun h => h)
      have hG' : Grew (fun b => b = P) w w1 := (Grew.trans (S := fun _ => False) (Grew.alloc (Grew.alloc (Grew.refl _ w) _) _) hG (fun _ _ h => h)).mono (fun _ _ h => h.elim)
      have HH := hide (And.intro hb1 (And.intro hR (And.intro hC (And.intro hTm hG'))))
      clear hb1 hR hC hTm hG' hG
      go_wp2_with fail
      go_meet
      obtain ⟨hb1, hR, hC, hTm, hG'⟩ := unhide HH
      refine ⟨M, m1, m2, Pos.set hb1 hR, by rw [World.size_alloc, World.size_alloc] at g2; omega, hC.setOther (a := ⟨P, 0, none⟩) (by show w.heap.size ≠ P; omega) _, ?_, hG'.setCell (a := ⟨P, 0, none⟩) (fun _ => rfl) _⟩
      exact (Below.heap_setCell _ _ _ _ (by show w.heap.size + 1 ≠ P; omega)).trans hTm
    · go_wp2_with fail
      go_meet
      refine ⟨M, m1, m2, hPos.grew (Grew.alloc (Grew.alloc (Grew.refl (fun _ => False) w) _) _) (fun h => h) (fun h => h) (fun h => h) (fun h => h), hbm, (Cpr.new rfl).alloc _, Tm.new (by simp [World.size_alloc]), (Grew.alloc (Grew.alloc (Grew.refl _ w) _) _)⟩
  case rest =>
    obtain ⟨M, m1, m2, hPos, hm1, hC, hTm, hG⟩ := hcut
    have p1 := hPos.pc
    go_wp2_with fail
    refine (get_any M m1 m2 k L _ hPos.2).mono ?_
    rintro e w2 ⟨⟨gb, rfl⟩, hG2⟩
    rw [hs]
    obtain ⟨⟨t0, o0, la0, lo0, e0⟩, ⟨t1, o1, la1, lo1, e1⟩, ⟨fla, flo, ft, fc⟩⟩ := s
    simp only [acV, acA] at *
    have hC2 := hC.grew hG2 (fun h => h)
    have hTm2 := hTm.grew hG2 (fun h => h)
    have hPos2 := hPos.grew hG2 (fun h => h) (fun h => h) (fun h => h) (fun h => h)
    have hGr2 : Grew (fun b => b = P) w w2 := hG.trans hG2 (fun _ _ h => h.elim)
    have x0 : ∀ o, (w2.alloc o).cell? ⟨w.heap.size, 0, none⟩ = some (.bool true) := fun o => (Grew.alloc (Grew.refl (fun _ => False) w2) o).cell (fun h => h) hC2.c0
    have x1 : ∀ o o', ((w2.alloc o).alloc o').cell? ⟨w.heap.size, 0, none⟩ = some (.bool true) := fun o o' => (Grew.alloc (Grew.alloc (Grew.refl (fun _ => False) w2) o) o').cell (fun h => h) hC2.c0
    have x2 : ∀ o o', ((w2.alloc o).alloc o').cell? ⟨w.heap.size, 1, none⟩ = some (.int .u32 la) := fun o o' => (Grew.alloc (Grew.alloc (Grew.refl (fun _ => False) w2) o) o').cell (fun h => h) hC2.c1
    have x3 : ∀ o o', ((w2.alloc o).alloc o').cell? ⟨w.heap.size, 2, none⟩ = some (.int .u32 lo) := fun o o' => (Grew.alloc (Grew.alloc (Grew.refl (fun _ => False) w2) o) o').cell (fun h => h) hC2.c2
    have y0 : ∀ o o', ((w2.alloc o).alloc o').cell? ⟨w.heap.size + 1, 0, none⟩ = some (.int .i64 t) := fun o o' => (Grew.alloc (Grew.alloc (Grew.refl (fun _ => False) w2) o) o').cell (fun h => h) hTm2.c0
    have y1 : ∀ o o', ((w2.alloc o).alloc o').cell? ⟨w.heap.size + 1, 1, none⟩ = some (.int .u8 c) := fun o o' => (Grew.alloc (Grew.alloc (Grew.refl (fun _ => False) w2) o) o').cell (fun h => h) hTm2.c1
    have HH := hide (And.intro hC2 (And.intro hTm2 (And.intro hPos2 hGr2)))
    clear hC2 hTm2 hPos2 hGr2 hG2 hG hPos hC hTm p1
    go_upto_region 9 with fail
    go_cut [62] from 50 (fun s62 wx => s62 = .bool (near t c t0 e0) ∧ Mem B P true la lo t c L ⟨⟨t0, o0, la0, lo0, e0⟩, ⟨t, true, la, lo, c⟩, ⟨fla, flo, ft, fc⟩⟩ w2.heap.size (w2.heap.size + 1) ⟨t0, o0, la0, lo0, e0⟩ w wx)
    case first =>
      by_cases hc : e0 = c
      case pos =>
        have hc' : c = e0 := hc.symm
        subst hc'
        clear hc
        go_wp2_with fail
        refine (since_any t t0 _).mono ?_
        rintro e w3 ⟨rfl, rfl⟩
        go_wp2_with fail
        go_meet
        refine ⟨by rw [near_same], ?_⟩
        obtain ⟨hC2, hTm2, hPos2, hGr2⟩ := unhide HH
        have GA : ∀ o o', Grew (fun _ => False) w2 ((w2.alloc o).alloc o') := fun o o' => Grew.alloc (Grew.alloc (Grew.refl _ w2) o) o'
        exact ⟨⟨M, m1, m2, hPos2.grew (GA _ _) (fun h => h) (fun h => h) (fun h => h) (fun h => h), hm1⟩, hC2.grew (GA _ _) (fun h => h), hTm2.grew (GA _ _) (fun h => h), (alloc_old _ _ (by rw [World.size_alloc]; omega)).trans (alloc_last w2 _), (by have := alloc_last (w2.alloc (.cells (acA ⟨⟨t0, o0, la0, lo0, c⟩, ⟨t, true, la, lo, c⟩, ⟨fla, flo, ft, fc⟩⟩) 58)) (.cells (Fr.vals ⟨t0, o0, la0, lo0, c⟩) 53); rw [World.size_alloc] at this; exact this), by have := hGr2.size; omega, hGr2.size, hGr2.trans (GA _ _) (fun _ _ h => h.elim)⟩
      case neg =>
        go_wp2_with fail
        go_meet
        refine ⟨by rw [near_false hc], ?_⟩
        obtain ⟨hC2, hTm2, hPos2, hGr2⟩ := unhide HH
        have GA : ∀ o o', Grew (fun _ => False) w2 ((w2.alloc o).alloc o') := fun o o' => Grew.alloc (Grew.alloc (Grew.refl _ w2) o) o'
        exact ⟨⟨M, m1, m2, hPos2.grew (GA _ _) (fun h => h) (fun h => h) (fun h => h) (fun h => h), hm1⟩, hC2.grew (GA _ _) (fun h => h), hTm2.grew (GA _ _) (fun h => h), (alloc_old _ _ (by rw [World.size_alloc]; omega)).trans (alloc_last w2 _), (by have := alloc_last (w2.alloc (.cells (acA ⟨⟨t0, o0, la0, lo0, e0⟩, ⟨t, true, la, lo, c⟩, ⟨fla, flo, ft, fc⟩⟩) 58)) (.cells (Fr.vals ⟨t0, o0, la0, lo0, e0⟩) 53); rw [World.size_alloc] at this; exact this), by have := hGr2.size; omega, hGr2.size, hGr2.trans (GA _ _) (fun _ _ h => h.elim)⟩
    case rest =>
      have hw2sz : w.heap.size + 2 ≤ w2.heap.size := by
        obtain ⟨_, hTm2, _⟩ := unhide HH
        have := heap_lt hTm2; omega
      clear HH x0 x1 x2 x3 y0 y1 q0 hpc hpb hplt
      obtain ⟨rfl, hMem⟩ := hcut
      have h8 := hMem.2.1.c0
      have h9 := hMem.2.1.c1
      have h10 := hMem.2.1.c2
      have hO := hMem.2.2.2.2.1
      unfold Ot Fr.vals at hO
      have h11 : wc.cell? ⟨w2.heap.size + 1, 1, none⟩ = some (.bool o0) := by simp [World.cell?, hO]
      have h12 : wc.cell? ⟨w2.heap.size + 1, 2, none⟩ = some (.int .u32 la0) := by simp [World.cell?, hO]
      have h13 : wc.cell? ⟨w2.heap.size + 1, 3, none⟩ = some (.int .u32 lo0) := by simp [World.cell?, hO]
      have HM := hide hMem
      have HTc := hide (hMem.tabs hB hB5 (unhide HT))
      clear hMem hO
      go_upto_if 62 with fail
      go_cut [8, 9, 10] from 50 (fun s8 s9 s10 wx => s8 = .float .f64 ga ∧ s9 = .float .f64 go ∧ s10 = .bool gk ∧ Mem B P true la lo t c L s2 w2.heap.size (w2.heap.size + 1) ⟨t0, o0, la0, lo0, e0⟩ w wx)
      case first =>
        cases hn : near t c t0 e0 with
        | true =>
          have hg' : globalF true la lo o0 la0 lo0 = some (ga, go, gk) := by rw [hn] at hg; exact hg
          go_wp2_with fail
          refine (global_any true o0 la lo la0 lo0 ga go gk hg' _ (unhide HTc)).mono ?_
          rintro e w3 ⟨rfl, hG3⟩
          have hM3 := (unhide HM).grew hG3
          have j0 := hM3.2.2.1.c0
          have j1 := hM3.2.2.1.c1
          have hA := hM3.2.2.2.1
          unfold Ac acA at hA
          have j10 : w3.cell? ⟨w2.heap.size, 10, none⟩ = some (.float .f64 fla) := by simp [World.cell?, hA]
          have j11 : w3.cell? ⟨w2.heap.size, 11, none⟩ = some (.float .f64 flo) := by simp [World.cell?, hA]
          have j12 : w3.cell? ⟨w2.heap.size, 12, none⟩ = some (.int .i64 ft) := by simp [World.cell?, hA]
          have j13 : w3.cell? ⟨w2.heap.size, 13, none⟩ = some (.int .u8 fc) := by simp [World.cell?, hA]
          have jf : ∀ i, w3.frozen? ⟨w2.heap.size, i, none⟩ = false := fun i => by simp [World.frozen?, hA]
          have HM3 := hide hM3
          clear hM3 hA hG3
          cases gk with
          | true =>
            go_wp2_with fail
            go_meet
            have hs2' : s2 = _ := hs2.symm
            rw [hs2']
            exact ⟨rfl, rfl, rfl, (unhide HM3).fix ga go hw2sz⟩
          | false =>
            go_wp2_with fail
            go_meet
            have hs2' : s2 = _ := hs2.symm
            rw [hs2']
            exact ⟨rfl, rfl, rfl, unhide HM3⟩
        | false =>
          have hg' : (some (0, 0, false) : Option (Nat × Nat × Bool)) = some (ga, go, gk) := by rw [hn] at hg; exact hg
          simp only [Option.some.injEq, Prod.mk.injEq] at hg'
          obtain ⟨rfl, rfl, rfl⟩ := hg'
          go_wp2_with fail
          go_meet
          have hs2' : s2 = _ := hs2.symm
          rw [hs2']
          exact ⟨rfl, rfl, rfl, unhide HM⟩
      case rest =>
        clear HM HTc h8 h9 h10 h11 h12 h13
        obtain ⟨wb, hwb⟩ : ∃ x, x = wc := ⟨_, rfl⟩
        subst hwb
        obtain ⟨rfl, rfl, rfl, hMem⟩ := hcut
        obtain ⟨⟨zt0, zo0, zla0, zlo0, ze0⟩, ⟨zt1, zo1, zla1, zlo1, ze1⟩, ⟨xa, xo, xt, xc⟩⟩ := s2
        simp only [] at hr
        have hA := hMem.2.2.2.1
        unfold Ac acA at hA
        have v10 : wb.cell? ⟨w2.heap.size, 10, none⟩ = some (.float .f64 xa) := by simp [World.cell?, hA]
        have v11 : wb.cell? ⟨w2.heap.size, 11, none⟩ = some (.float .f64 xo) := by simp [World.cell?, hA]
        have v12 : wb.cell? ⟨w2.heap.size, 12, none⟩ = some (.int .i64 xt) := by simp [World.cell?, hA]
        have v13 : wb.cell? ⟨w2.heap.size, 13, none⟩ = some (.int .u8 xc) := by simp [World.cell?, hA]
        have y0 : ∀ o, (wb.alloc o).cell? ⟨w.heap.size + 1, 0, none⟩ = some (.int .i64 t) := fun o => (Grew.alloc (Grew.refl (fun _ => False) wb) o).cell (fun h => h) hMem.2.2.1.c0
        have y1 : ∀ o, (wb.alloc o).cell? ⟨w.heap.size + 1, 1, none⟩ = some (.int .u8 c) := fun o => (Grew.alloc (Grew.refl (fun _ => False) wb) o).cell (fun h => h) hMem.2.2.1.c1
        have HM := hide hMem
        clear hMem hA
        clear hg
        have HS2 := hide hs2
        clear hs2
        go_upto_region 14 with fail
        go_cut [98] from 82 (fun s98 wx => s98 = .bool (!gk && near t c xt xc) ∧ Mem B P true la lo t c L ⟨⟨zt0, zo0, zla0, zlo0, ze0⟩, ⟨zt1, zo1, zla1, zlo1, ze1⟩, ⟨xa, xo, xt, xc⟩⟩ w2.heap.size (w2.heap.size + 1) ⟨t0, o0, la0, lo0, e0⟩ w wx ∧ Fxb wb.heap.size ⟨xa, xo, xt, xc⟩ wx)
        case first =>
          cases gk with
          | true =>
            go_wp2_with fail
            go_meet
            exact ⟨rfl, (unhide HM).grew (Grew.alloc (Grew.refl _ wb) _), alloc_last wb _⟩
          | false =>
            by_cases hc : xc = c
            case pos =>
              have hc' : c = xc := hc.symm
              subst hc'
              clear hc
              go_wp2_with fail
              refine (since_any t xt _).mono ?_
              rintro e w3 ⟨rfl, rfl⟩
              go_wp2_with fail
              go_meet
              exact ⟨by rw [near_same]; rfl, (unhide HM).grew (Grew.alloc (Grew.refl _ wb) _), alloc_last wb _⟩
            case neg =>
              go_wp2_with fail
              go_meet
              exact ⟨by rw [near_false hc]; rfl, (unhide HM).grew (Grew.alloc (Grew.refl _ wb) _), alloc_last wb _⟩
        case rest =>
          clear HM v10 v11 v12 v13 y0 y1
          obtain ⟨rfl, hMem, hFx⟩ := hcut
          have h8 := hMem.2.1.c0
          have h9 := hMem.2.1.c1
          have h10 := hMem.2.1.c2
          unfold Fxb at hFx
          have k0 : wc.cell? ⟨wb.heap.size, 0, none⟩ = some (.float .f64 xa) := by simp [World.cell?, hFx]
          have k1 : wc.cell? ⟨wb.heap.size, 1, none⟩ = some (.float .f64 xo) := by simp [World.cell?, hFx]
          have HM := hide hMem
          have HTc := hide (hMem.tabs hB hB5 (unhide HT))
          clear hMem hFx
          go_upto_if 98 with fail
          go_cut [8, 9, 10] from 82 (fun s8 s9 s10 wx => s8 = .float .f64 a ∧ s9 = .float .f64 b ∧ s10 = .bool ok ∧ Mem B P true la lo t c L ⟨⟨zt0, zo0, zla0, zlo0, ze0⟩, ⟨zt1, zo1, zla1, zlo1, ze1⟩, ⟨xa, xo, xt, xc⟩⟩ w2.heap.size (w2.heap.size + 1) ⟨t0, o0, la0, lo0, e0⟩ w wx)
          case first =>
            cases hn : (!gk && near t c xt xc) with
            | true =>
              have hr' : localF true la lo xa xo = some (a, b, ok) := by rw [hn] at hr; exact hr
              go_wp2_with fail
              refine (local_any true la lo xa xo a b ok hr' _ (unhide HTc)).mono ?_
              rintro e w3 ⟨rfl, hG3⟩
              go_wp2_with fail
              go_meet
              exact ⟨rfl, rfl, rfl, (unhide HM).grew hG3⟩
            | false =>
              have hr' : some (ga, go, gk) = some (a, b, ok) := by rw [hn] at hr; exact hr
              simp only [Option.some.injEq, Prod.mk.injEq] at hr'
              obtain ⟨rfl, rfl, rfl⟩ := hr'
              go_wp2_with fail
              go_meet
              exact ⟨rfl, rfl, rfl, unhide HM⟩
          case rest =>
            clear HM HTc h8 h9 h10 k0 k1
            obtain ⟨rfl, rfl, rfl, hMem⟩ := hcut
            obtain ⟨⟨M', n1, n2, hP, hn1⟩, hC, hTm, hA, hO, hne, hle, hG⟩ := hMem
            have p1 := hP.pc
            unfold Ac acA at hA
            have v0 : wc.cell? ⟨w2.heap.size, 0, none⟩ = some (.int .i64 zt0) := by simp [World.cell?, hA]
            have v1 : wc.cell? ⟨w2.heap.size, 1, none⟩ = some (.bool zo0) := by simp [World.cell?, hA]
            have v2 : wc.cell? ⟨w2.heap.size, 2, none⟩ = some (.int .u32 zla0) := by simp [World.cell?, hA]
            have v3 : wc.cell? ⟨w2.heap.size, 3, none⟩ = some (.int .u32 zlo0) := by simp [World.cell?, hA]
            have v4 : wc.cell? ⟨w2.heap.size, 4, none⟩ = some (.int .u8 ze0) := by simp [World.cell?, hA]
            have v5 : wc.cell? ⟨w2.heap.size, 5, none⟩ = some (.int .i64 zt1) := by simp [World.cell?, hA]
            have v6 : wc.cell? ⟨w2.heap.size, 6, none⟩ = some (.bool zo1) := by simp [World.cell?, hA]
            have v7 : wc.cell? ⟨w2.heap.size, 7, none⟩ = some (.int .u32 zla1) := by simp [World.cell?, hA]
            have v8 : wc.cell? ⟨w2.heap.size, 8, none⟩ = some (.int .u32 zlo1) := by simp [World.cell?, hA]
            have v9 : wc.cell? ⟨w2.heap.size, 9, none⟩ = some (.int .u8 ze1) := by simp [World.cell?, hA]
            have v10 : wc.cell? ⟨w2.heap.size, 10, none⟩ = some (.float .f64 xa) := by simp [World.cell?, hA]
            have v11 : wc.cell? ⟨w2.heap.size, 11, none⟩ = some (.float .f64 xo) := by simp [World.cell?, hA]
            have v12 : wc.cell? ⟨w2.heap.size, 12, none⟩ = some (.int .i64 xt) := by simp [World.cell?, hA]
            have v13 : wc.cell? ⟨w2.heap.size, 13, none⟩ = some (.int .u8 xc) := by simp [World.cell?, hA]
            have HP := hide (And.intro hP hG)
            clear hP hG hC hTm hA hO
            go_wp2_with fail
            go_region_with (go_at_call 13; refine (put_any M' n1 n2 k ⟨⟨zt0, zo0, zla0, zlo0, ze0⟩, ⟨zt1, zo1, zla1, zlo1, ze1⟩, ⟨xa, xo, xt, xc⟩⟩ L _ (unhide HP).1.2.drew hL (rec_ne (unhide HP).1.2)).mono ?_; rintro e w4 ⟨rfl, ⟨L', hR', hlook, hlen⟩, hG4⟩)
            all_goals (
              obtain ⟨hP, hG⟩ := unhide HP
              have hTc : Tabs wc := hG.tabs (fun j hj => (by have h : j = P := hj; omega)) (unhide HT)
              have hT4 : Tabs w4 := hG4.tabs (fun j hj => (by have h : j = n1 := hj; omega)) hTc
              have HT4 := hide hT4
              have HG4 := hide (And.intro hR' (And.intro hlook (And.intro hlen hG4)))
              clear hTc hT4 hP hG hR' hlook hlen hG4
              go_wp2_with fail
              refine (roundDec_any a a' ha _ (unhide HT4)).mono ?_
              rintro e w5 ⟨rfl, hG5⟩
              have HG5 := hide hG5
              clear hG5
              go_wp2_with fail
              refine (roundDec_any b b' hb _ ((unhide HG5).tabs (fun _ h => h.elim) (unhide HT4))).mono ?_
              rintro e w6 ⟨rfl, hG6⟩
              go_wp2_with fail
              go_ret3
              obtain ⟨hR', hlook, hlen, hG4⟩ := unhide HG4
              obtain ⟨hP, hG⟩ := unhide HP
              have hfin := locate_fin hP hn1 hB hG hR' hG4 ((unhide HG5).trans hG6 (fun _ _ h => h))
              exact ⟨rfl, ⟨L', hfin.1, hlook, hlen⟩, hfin.2⟩)

set_option maxHeartbeats 2000000 in
set_option maxRecDepth 100000 in
theorem locate_false (B P : Nat) (k : Int) (la lo : Nat) (t c : Int) (L : List (Int × St × Nat)) (s : St) (hs : (lookL k L).getD stZ = s) (ga go : Nat) (gk : Bool) (hg : (if near t c s.f1.t s.f1.c then globalF false la lo s.f1.o s.f1.la s.f1.lo else some (0, 0, false)) = some (ga, go, gk)) (s2 : St) (hs2 : (if gk then { s with f0 := ⟨t, false, la, lo, c⟩, fx := ⟨ga, go, t, c⟩ } else { s with f0 := ⟨t, false, la, lo, c⟩ }) = s2) (a b : Nat) (ok : Bool) (hr : (if !gk && near t c s2.fx.t s2.fx.c then localF false la lo s2.fx.la s2.fx.lo else some (ga, go, gk)) = some (a, b, ok)) (a' b' : Nat) (ha : roundF a = some a') (hb : roundF b = some b') (w : World) (hB : B ≤ P) (hp : PosAny B P L w) (hT : Tabs w) (hB5 : 5 < B) (hL : L.length < 50000) :
    Calls Ybad.prog 4 #[.pointer (some ⟨P, 0, none⟩), .int .u32 k, cprV false la lo, .agg #[.int .i64 t, .int .u8 c]] w fun e w' => e = .returned (.tuple #[.float .f64 a', .float .f64 b', .bool ok]) ∧ (∃ L', PosAny B P L' w' ∧ (∀ k', lookL k' L' = if k' = k then some s2 else lookL k' L) ∧ L'.length ≤ L.length + 1) ∧ Grew (fun b => B ≤ b ∧ (b = P ∨ ∃ es ck, w.heap[b]? = some (.map es ck))) w w' := by
  unfold cprV
  have HT := hide hT
  clear hT
  go_enter Ybad.func4, Ybad.ntmps4
  have hP : ∃ p, w.heap[P]? = some (.cells #[.pointer p] 25) ∧ ((p = none ∧ L = []) ∨ ∃ M m1 m2, p = some ⟨M, 0, none⟩ ∧ Pos P M m1 m2 L w ∧ B ≤ m1) := by
    rcases hp with ⟨e, h⟩ | ⟨M, m1, m2, e, hb⟩
    · exact ⟨none, e, .inl ⟨rfl, h⟩⟩
    · exact ⟨_, e.1, .inr ⟨M, m1, m2, rfl, e, hb⟩⟩
  obtain ⟨p, hpb, hp'⟩ := hP
  clear hp
  have hpc : w.cell? ⟨P, 0, none⟩ = some (.pointer p) := by simp [World.cell?, hpb]
  have q0 : ∀ o o', ((w.alloc o).alloc o').cell? ⟨P, 0, none⟩ = some (.pointer p) := fun o o' => (Grew.alloc (Grew.alloc (Grew.refl (fun _ => False) w) o) o').cell (fun h => h) hpc
  have hplt := heap_lt hpb
  go_upto_if 20 with fail
  go_cut [] from 21 (fun wx => Ready B P false la lo t c L w wx)
  case first =>
    rcases hp' with ⟨rfl, rfl⟩ | ⟨M, m1, m2, rfl, hPos, hbm⟩
    · go_wp2_with fail
      refine (new_any _).mono ?_
      rintro e w1 ⟨M, m1, m2, rfl, hR, g1, g2, g3, hG⟩
      have hb1 : w1.heap[P]? = some (.cells #[.pointer none] 25) := by
        refine (hG.block P (by rw [World.size_alloc, World.size_alloc]; omega) (fun h => h)).trans ?_
        exact (alloc_old _ _ (by rw [World.size_alloc]; omega)).trans ((alloc_old _ _ hplt).trans hpb)
      have r0 : w1.cell? ⟨P, 0, none⟩ = some (.pointer none) := by simp [World.cell?, hb1]
      have r1 : w1.frozen? ⟨P, 0, none⟩ = false := by simp [World.frozen?, hb1]
      have hC : Cpr w.heap.size false la lo w1 := Cpr.grew ((Cpr.new rfl).alloc _) hG (fun h => h)
      have hTm : Tm (w.heap.size + 1) t c w1 := Tm.grew (Tm.new (by simp [World.size_alloc])) hG (fun h => h)
      have hG' : Grew (fun b => b = P) w w1 := (Grew.trans (S := fun _ => False) (Grew.alloc (Grew.alloc (Grew.refl _ w) _) _) hG (fun _ _ h => h)).mono (fun _ _ h => h.elim)
      have HH := hide (And.intro hb1 (And.intro hR (And.intro hC (And.intro hTm hG'))))
      clear hb1 hR hC hTm hG' hG
      go_wp2_with fail
      go_meet
      obtain ⟨hb1, hR, hC, hTm, hG'⟩ := unhide HH
      refine ⟨M, m1, m2, Pos.set hb1 hR, by rw [World.size_alloc, World.size_alloc] at g2; omega, hC.setOther (a := ⟨P, 0, none⟩) (by show w.heap.size ≠ P; omega) _, ?_, hG'.setCell (a := ⟨P, 0, none⟩) (fun _ => rfl) _⟩
      exact (Below.heap_setCell _ _ _ _ (by show w.heap.size + 1 ≠ P; omega)).trans hTm
    · go_wp2_with fail
      go_meet
      refine ⟨M, m1, m2, hPos.grew (Grew.alloc (Grew.alloc (Grew.refl (fun _ => False) w) _) _) (fun h => h) (fun h => h) (fun h => h) (fun h => h), hbm, (Cpr.new rfl).alloc _, Tm.new (by simp [World.size_alloc]), (Grew.alloc (Grew.alloc (Grew.refl _ w) _) _)⟩
  case rest =>
    obtain ⟨M, m1, m2, hPos, hm1, hC, hTm, hG⟩ := hcut
    have p1 := hPos.pc
    go_wp2_with fail
    refine (get_any M m1 m2 k L _ hPos.2).mono ?_
    rintro e w2 ⟨⟨gb, rfl⟩, hG2⟩
    rw [hs]
    obtain ⟨⟨t0, o0, la0, lo0, e0⟩, ⟨t1, o1, la1, lo1, e1⟩, ⟨fla, flo, ft, fc⟩⟩ := s
    simp only [acV, acA] at *
    have hC2 := hC.grew hG2 (fun h => h)
    have hTm2 := hTm.grew hG2 (fun h => h)
    have hPos2 := hPos.grew hG2 (fun h => h) (fun h => h) (fun h => h) (fun h => h)
    have hGr2 : Grew (fun b => b = P) w w2 := hG.trans hG2 (fun _ _ h => h.elim)
    have x0 : ∀ o, (w2.alloc o).cell? ⟨w.heap.size, 0, none⟩ = some (.bool false) := fun o => (Grew.alloc (Grew.refl (fun _ => False) w2) o).cell (fun h => h) hC2.c0
    have x1 : ∀ o o', ((w2.alloc o).alloc o').cell? ⟨w.heap.size, 0, none⟩ = some (.bool false) := fun o o' => (Grew.alloc (Grew.alloc (Grew.refl (fun _ => False) w2) o) o').cell (fun h => h) hC2.c0
    have x2 : ∀ o o', ((w2.alloc o).alloc o').cell? ⟨w.heap.size, 1, none⟩ = some (.int .u32 la) := fun o o' => (Grew.alloc (Grew.alloc (Grew.refl (fun _ => False) w2) o) o').cell (fun h => h) hC2.c1
    have x3 : ∀ o o', ((w2.alloc o).alloc o').cell? ⟨w.heap.size, 2, none⟩ = some (.int .u32 lo) := fun o o' => (Grew.alloc (Grew.alloc (Grew.refl (fun _ => False) w2) o) o').cell (fun h => h) hC2.c2
    have y0 : ∀ o o', ((w2.alloc o).alloc o').cell? ⟨w.heap.size + 1, 0, none⟩ = some (.int .i64 t) := fun o o' => (Grew.alloc (Grew.alloc (Grew.refl (fun _ => False) w2) o) o').cell (fun h => h) hTm2.c0
    have y1 : ∀ o o', ((w2.alloc o).alloc o').cell? ⟨w.heap.size + 1, 1, none⟩ = some (.int .u8 c) := fun o o' => (Grew.alloc (Grew.alloc (Grew.refl (fun _ => False) w2) o) o').cell (fun h => h) hTm2.c1
    have HH := hide (And.intro hC2 (And.intro hTm2 (And.intro hPos2 hGr2)))
    clear hC2 hTm2 hPos2 hGr2 hG2 hG hPos hC hTm p1
    go_upto_region 9 with fail
    go_cut [62] from 50 (fun s62 wx => s62 = .bool (near t c t1 e1) ∧ Mem B P false la lo t c L ⟨⟨t, false, la, lo, c⟩, ⟨t1, o1, la1, lo1, e1⟩, ⟨fla, flo, ft, fc⟩⟩ w2.heap.size (w2.heap.size + 1) ⟨t1, o1, la1, lo1, e1⟩ w wx)
    case first =>
      by_cases hc : e1 = c
      case pos =>
        have hc' : c = e1 := hc.symm
        subst hc'
        clear hc
        go_wp2_with fail
        refine (since_any t t1 _).mono ?_
        rintro e w3 ⟨rfl, rfl⟩
        go_wp2_with fail
        go_meet
        refine ⟨by rw [near_same], ?_⟩
        obtain ⟨hC2, hTm2, hPos2, hGr2⟩ := unhide HH
        have GA : ∀ o o', Grew (fun _ => False) w2 ((w2.alloc o).alloc o') := fun o o' => Grew.alloc (Grew.alloc (Grew.refl _ w2) o) o'
        exact ⟨⟨M, m1, m2, hPos2.grew (GA _ _) (fun h => h) (fun h => h) (fun h => h) (fun h => h), hm1⟩, hC2.grew (GA _ _) (fun h => h), hTm2.grew (GA _ _) (fun h => h), (alloc_old _ _ (by rw [World.size_alloc]; omega)).trans (alloc_last w2 _), (by have := alloc_last (w2.alloc (.cells (acA ⟨⟨t, false, la, lo, c⟩, ⟨t1, o1, la1, lo1, c⟩, ⟨fla, flo, ft, fc⟩⟩) 58)) (.cells (Fr.vals ⟨t1, o1, la1, lo1, c⟩) 53); rw [World.size_alloc] at this; exact this), by have := hGr2.size; omega, hGr2.size, hGr2.trans (GA _ _) (fun _ _ h => h.elim)⟩
      case neg =>
        go_wp2_with fail
        go_meet
        refine ⟨by rw [near_false hc], ?_⟩
        obtain ⟨hC2, hTm2, hPos2, hGr2⟩ := unhide HH
        have GA : ∀ o o', Grew (fun _ => False) w2 ((w2.alloc o).alloc o') := fun o o' => Grew.alloc (Grew.alloc (Grew.refl _ w2) o) o'
        exact ⟨⟨M, m1, m2, hPos2.grew (GA _ _) (fun h => h) (fun h => h) (fun h => h) (fun h => h), hm1⟩, hC2.grew (GA _ _) (fun h => h), hTm2.grew (GA _ _) (fun h => h), (alloc_old _ _ (by rw [World.size_alloc]; omega)).trans (alloc_last w2 _), (by have := alloc_last (w2.alloc (.cells (acA ⟨⟨t, false, la, lo, c⟩, ⟨t1, o1, la1, lo1, e1⟩, ⟨fla, flo, ft, fc⟩⟩) 58)) (.cells (Fr.vals ⟨t1, o1, la1, lo1, e1⟩) 53); rw [World.size_alloc] at this; exact this), by have := hGr2.size; omega, hGr2.size, hGr2.trans (GA _ _) (fun _ _ h => h.elim)⟩
    case rest =>
      have hw2sz : w.heap.size + 2 ≤ w2.heap.size := by
        obtain ⟨_, hTm2, _⟩ := unhide HH
        have := heap_lt hTm2; omega
      clear HH x0 x1 x2 x3 y0 y1 q0 hpc hpb hplt
      obtain ⟨rfl, hMem⟩ := hcut
      have h8 := hMem.2.1.c0
      have h9 := hMem.2.1.c1
      have h10 := hMem.2.1.c2
      have hO := hMem.2.2.2.2.1
      unfold Ot Fr.vals at hO
      have h11 : wc.cell? ⟨w2.heap.size + 1, 1, none⟩ = some (.bool o1) := by simp [World.cell?, hO]
      have h12 : wc.cell? ⟨w2.heap.size + 1, 2, none⟩ = some (.int .u32 la1) := by simp [World.cell?, hO]
      have h13 : wc.cell? ⟨w2.heap.size + 1, 3, none⟩ = some (.int .u32 lo1) := by simp [World.cell?, hO]
      have HM := hide hMem
      have HTc := hide (hMem.tabs hB hB5 (unhide HT))
      clear hMem hO
      go_upto_if 62 with fail
      go_cut [8, 9, 10] from 50 (fun s8 s9 s10 wx => s8 = .float .f64 ga ∧ s9 = .float .f64 go ∧ s10 = .bool gk ∧ Mem B P false la lo t c L s2 w2.heap.size (w2.heap.size + 1) ⟨t1, o1, la1, lo1, e1⟩ w wx)
      case first =>
        cases hn : near t c t1 e1 with
        | true =>
          have hg' : globalF false la lo o1 la1 lo1 = some (ga, go, gk) := by rw [hn] at hg; exact hg
          go_wp2_with fail
          refine (global_any false o1 la lo la1 lo1 ga go gk hg' _ (unhide HTc)).mono ?_
          rintro e w3 ⟨rfl, hG3⟩
          have hM3 := (unhide HM).grew hG3
          have j0 := hM3.2.2.1.c0
          have j1 := hM3.2.2.1.c1
          have hA := hM3.2.2.2.1
          unfold Ac acA at hA
          have j10 : w3.cell? ⟨w2.heap.size, 10, none⟩ = some (.float .f64 fla) := by simp [World.cell?, hA]
          have j11 : w3.cell? ⟨w2.heap.size, 11, none⟩ = some (.float .f64 flo) := by simp [World.cell?, hA]
          have j12 : w3.cell? ⟨w2.heap.size, 12, none⟩ = some (.int .i64 ft) := by simp [World.cell?, hA]
          have j13 : w3.cell? ⟨w2.heap.size, 13, none⟩ = some (.int .u8 fc) := by simp [World.cell?, hA]
          have jf : ∀ i, w3.frozen? ⟨w2.heap.size, i, none⟩ = false := fun i => by simp [World.frozen?, hA]
          have HM3 := hide hM3
          clear hM3 hA hG3
          cases gk with
          | true =>
            go_wp2_with fail
            go_meet
            have hs2' : s2 = _ := hs2.symm
            rw [hs2']
            exact ⟨rfl, rfl, rfl, (unhide HM3).fix ga go hw2sz⟩
          | false =>
            go_wp2_with fail
            go_meet
            have hs2' : s2 = _ := hs2.symm
            rw [hs2']
            exact ⟨rfl, rfl, rfl, unhide HM3⟩
        | false =>
          have hg' : (some (0, 0, false) : Option (Nat × Nat × Bool)) = some (ga, go, gk) := by rw [hn] at hg; exact hg
          simp only [Option.some.injEq, Prod.mk.injEq] at hg'
          obtain ⟨rfl, rfl, rfl⟩ := hg'
          go_wp2_with fail
          go_meet
          have hs2' : s2 = _ := hs2.symm
          rw [hs2']
          exact ⟨rfl, rfl, rfl, unhide HM⟩
      case rest =>
        clear HM HTc h8 h9 h10 h11 h12 h13
        obtain ⟨wb, hwb⟩ : ∃ x, x = wc := ⟨_, rfl⟩
        subst hwb
        obtain ⟨rfl, rfl, rfl, hMem⟩ := hcut
        obtain ⟨⟨zt0, zo0, zla0, zlo0, ze0⟩, ⟨zt1, zo1, zla1, zlo1, ze1⟩, ⟨xa, xo, xt, xc⟩⟩ := s2
        simp only [] at hr
        have hA := hMem.2.2.2.1
        unfold Ac acA at hA
        have v10 : wb.cell? ⟨w2.heap.size, 10, none⟩ = some (.float .f64 xa) := by simp [World.cell?, hA]
        have v11 : wb.cell? ⟨w2.heap.size, 11, none⟩ = some (.float .f64 xo) := by simp [World.cell?, hA]
        have v12 : wb.cell? ⟨w2.heap.size, 12, none⟩ = some (.int .i64 xt) := by simp [World.cell?, hA]
        have v13 : wb.cell? ⟨w2.heap.size, 13, none⟩ = some (.int .u8 xc) := by simp [World.cell?, hA]
        have y0 : ∀ o, (wb.alloc o).cell? ⟨w.heap.size + 1, 0, none⟩ = some (.int .i64 t) := fun o => (Grew.alloc (Grew.refl (fun _ => False) wb) o).cell (fun h => h) hMem.2.2.1.c0
        have y1 : ∀ o, (wb.alloc o).cell? ⟨w.heap.size + 1, 1, none⟩ = some (.int .u8 c) := fun o => (Grew.alloc (Grew.refl (fun _ => False) wb) o).cell (fun h => h) hMem.2.2.1.c1
        have HM := hide hMem
        clear hMem hA
        clear hg
        have HS2 := hide hs2
        clear hs2
        go_upto_region 14 with fail
        go_cut [98] from 82 (fun s98 wx => s98 = .bool (!gk && near t c xt xc) ∧ Mem B P false la lo t c L ⟨⟨zt0, zo0, zla0, zlo0, ze0⟩, ⟨zt1, zo1, zla1, zlo1, ze1⟩, ⟨xa, xo, xt, xc⟩⟩ w2.heap.size (w2.heap.size + 1) ⟨t1, o1, la1, lo1, e1⟩ w wx ∧ Fxb wb.heap.size ⟨xa, xo, xt, xc⟩ wx)
        case first =>
          cases gk with
          | true =>
            go_wp2_with fail
            go_meet
            exact ⟨rfl, (unhide HM).grew (Grew.alloc (Grew.refl _ wb) _), alloc_last wb _⟩
          | false =>
            by_cases hc : xc = c
            case pos =>
              have hc' : c = xc := hc.symm
              subst hc'
              clear hc
              go_wp2_with fail
              refine (since_any t xt _).mono ?_
              rintro e w3 ⟨rfl, rfl⟩
              go_wp2_with fail
              go_meet
              exact ⟨by rw [near_same]; rfl, (unhide HM).grew (Grew.alloc (Grew.refl _ wb) _), alloc_last wb _⟩
            case neg =>
              go_wp2_with fail
              go_meet
              exact ⟨by rw [near_false hc]; rfl, (unhide HM).grew (Grew.alloc (Grew.refl _ wb) _), alloc_last wb _⟩
        case rest =>
          clear HM v10 v11 v12 v13 y0 y1
          obtain ⟨rfl, hMem, hFx⟩ := hcut
          have h8 := hMem.2.1.c0
          have h9 := hMem.2.1.c1
          have h10 := hMem.2.1.c2
          unfold Fxb at hFx
          have k0 : wc.cell? ⟨wb.heap.size, 0, none⟩ = some (.float .f64 xa) := by simp [World.cell?, hFx]
          have k1 : wc.cell? ⟨wb.heap.size, 1, none⟩ = some (.float .f64 xo) := by simp [World.cell?, hFx]
          have HM := hide hMem
          have HTc := hide (hMem.tabs hB hB5 (unhide HT))
          clear hMem hFx
          go_upto_if 98 with fail
          go_cut [8, 9, 10] from 82 (fun s8 s9 s10 wx => s8 = .float .f64 a ∧ s9 = .float .f64 b ∧ s10 = .bool ok ∧ Mem B P false la lo t c L ⟨⟨zt0, zo0, zla0, zlo0, ze0⟩, ⟨zt1, zo1, zla1, zlo1, ze1⟩, ⟨xa, xo, xt, xc⟩⟩ w2.heap.size (w2.heap.size + 1) ⟨t1, o1, la1, lo1, e1⟩ w wx)
          case first =>
            cases hn : (!gk && near t c xt xc) with
            | true =>
              have hr' : localF false la lo xa xo = some (a, b, ok) := by rw [hn] at hr; exact hr
              go_wp2_with fail
              refine (local_any false la lo xa xo a b ok hr' _ (unhide HTc)).mono ?_
              rintro e w3 ⟨rfl, hG3⟩
              go_wp2_with fail
              go_meet
              exact ⟨rfl, rfl, rfl, (unhide HM).grew hG3⟩
            | false =>
              have hr' : some (ga, go, gk) = some (a, b, ok) := by rw [hn] at hr; exact hr
              simp only [Option.some.injEq, Prod.mk.injEq] at hr'
              obtain ⟨rfl, rfl, rfl⟩ := hr'
              go_wp2_with fail
              go_meet
              exact ⟨rfl, rfl, rfl, unhide HM⟩
          case rest =>
            clear HM HTc h8 h9 h10 k0 k1
            obtain ⟨rfl, rfl, rfl, hMem⟩ := hcut
            obtain ⟨⟨M', n1, n2, hP, hn1⟩, hC, hTm, hA, hO, hne, hle, hG⟩ := hMem
            have p1 := hP.pc
            unfold Ac acA at hA
            have v0 : wc.cell? ⟨w2.heap.size, 0, none⟩ = some (.int .i64 zt0) := by simp [World.cell?, hA]
            have v1 : wc.cell? ⟨w2.heap.size, 1, none⟩ = some (.bool zo0) := by simp [World.cell?, hA]
            have v2 : wc.cell? ⟨w2.heap.size, 2, none⟩ = some (.int .u32 zla0) := by simp [World.cell?, hA]
            have v3 : wc.cell? ⟨w2.heap.size, 3, none⟩ = some (.int .u32 zlo0) := by simp [World.cell?, hA]
            have v4 : wc.cell? ⟨w2.heap.size, 4, none⟩ = some (.int .u8 ze0) := by simp [World.cell?, hA]
            have v5 : wc.cell? ⟨w2.heap.size, 5, none⟩ = some (.int .i64 zt1) := by simp [World.cell?, hA]
            have v6 : wc.cell? ⟨w2.heap.size, 6, none⟩ = some (.bool zo1) := by simp [World.cell?, hA]
            have v7 : wc.cell? ⟨w2.heap.size, 7, none⟩ = some (.int .u32 zla1) := by simp [World.cell?, hA]
            have v8 : wc.cell? ⟨w2.heap.size, 8, none⟩ = some (.int .u32 zlo1) := by simp [World.cell?, hA]
            have v9 : wc.cell? ⟨w2.heap.size, 9, none⟩ = some (.int .u8 ze1) := by simp [World.cell?, hA]
            have v10 : wc.cell? ⟨w2.heap.size, 10, none⟩ = some (.float .f64 xa) := by simp [World.cell?, hA]
            have v11 : wc.cell? ⟨w2.heap.size, 11, none⟩ = some (.float .f64 xo) := by simp [World.cell?, hA]
            have v12 : wc.cell? ⟨w2.heap.size, 12, none⟩ = some (.int .i64 xt) := by simp [World.cell?, hA]
            have v13 : wc.cell? ⟨w2.heap.size, 13, none⟩ = some (.int .u8 xc) := by simp [World.cell?, hA]
            have HP := hide (And.intro hP hG)
            clear hP hG hC hTm hA hO
            go_wp2_with fail
            go_region_with (go_at_call 13; refine (put_any M' n1 n2 k ⟨⟨zt0, zo0, zla0, zlo0, ze0⟩, ⟨zt1, zo1, zla1, zlo1, ze1⟩, ⟨xa, xo, xt, xc⟩⟩ L _ (unhide HP).1.2.drew hL (rec_ne (unhide HP).1.2)).mono ?_; rintro e w4 ⟨rfl, ⟨L', hR', hlook, hlen⟩, hG4⟩)
            all_goals (
              obtain ⟨hP, hG⟩ := unhide HP
              have hTc : Tabs wc := hG.tabs (fun j hj => (by have h : j = P := hj; omega)) (unhide HT)
              have hT4 : Tabs w4 := hG4.tabs (fun j hj => (by have h : j = n1 := hj; omega)) hTc
              have HT4 := hide hT4
              have HG4 := hide (And.intro hR' (And.intro hlook (And.intro hlen hG4)))
              clear hTc hT4 hP hG hR' hlook hlen hG4
              go_wp2_with fail
              refine (roundDec_any a a' ha _ (unhide HT4)).mono ?_
              rintro e w5 ⟨rfl, hG5⟩
              have HG5 := hide hG5
              clear hG5
              go_wp2_with fail
              refine (roundDec_any b b' hb _ ((unhide HG5).tabs (fun _ h => h.elim) (unhide HT4))).mono ?_
              rintro e w6 ⟨rfl, hG6⟩
              go_wp2_with fail
              go_ret3
              obtain ⟨hR', hlook, hlen, hG4⟩ := unhide HG4
              obtain ⟨hP, hG⟩ := unhide HP
              have hfin := locate_fin hP hn1 hB hG hR' hG4 ((unhide HG5).trans hG6 (fun _ _ h => h))
              exact ⟨rfl, ⟨L', hfin.1, hlook, hlen⟩, hfin.2⟩)


theorem locate_any (odd : Bool) (B P : Nat) (k : Int) (la lo : Nat) (t c : Int) (L : List (Int × St × Nat)) (s : St) (hs : (lookL k L).getD stZ = s) (ga go : Nat) (gk : Bool)
    (hg : (if near t c (otherF odd s).t (otherF odd s).c then globalF odd la lo (otherF odd s).o (otherF odd s).la (otherF odd s).lo else some (0, 0, false)) = some (ga, go, gk)) (s2 : St)
    (hs2 : (if gk then { setF odd s ⟨t, odd, la, lo, c⟩ with fx := ⟨ga, go, t, c⟩ } else setF odd s ⟨t, odd, la, lo, c⟩) = s2) (a b : Nat) (ok : Bool)
    (hr : (if !gk && near t c s2.fx.t s2.fx.c then localF odd la lo s2.fx.la s2.fx.lo else some (ga, go, gk)) = some (a, b, ok)) (a' b' : Nat) (ha : roundF a = some a') (hb : roundF b = some b')
    (w : World) (hB : B ≤ P) (hp : PosAny B P L w) (hT : Tabs w) (hB5 : 5 < B) (hL : L.length < 50000) :
    Calls Ybad.prog 4 #[.pointer (some ⟨P, 0, none⟩), .int .u32 k, cprV odd la lo, .agg #[.int .i64 t, .int .u8 c]] w fun e w' => e = .returned (.tuple #[.float .f64 a', .float .f64 b', .bool ok]) ∧ (∃ L', PosAny B P L' w' ∧ (∀ k', lookL k' L' = if k' = k then some s2 else lookL k' L) ∧ L'.length ≤ L.length + 1) ∧ Grew (fun b => B ≤ b ∧ (b = P ∨ ∃ es ck, w.heap[b]? = some (.map es ck))) w w' := by
  cases odd
  · exact locate_false B P k la lo t c L s hs ga go gk hg s2 hs2 a b ok hr a' b' ha hb w hB hp hT hB5 hL
  · exact locate_true B P k la lo t c L s hs ga go gk hg s2 hs2 a b ok hr a' b' ha hb w hB hp hT hB5 hL


end Go.Proofs.YbulkcyuwDoor
