/-
  slot.push (5), slot.take (18).
-/
import Derived.Test.YbulkcyrqDoorBase
import Derived.Deep.RegionHeld3
namespace Go.Proofs.YbulkcyrqDoor
open Go.RowKit

def upd (f : Nat → Value) (i : Nat) (v : Value) : Nat → Value := fun j => if j = i then v else f j
theorem upd_same (f : Nat → Value) (i : Nat) (v : Value) : upd f i v i = v := if_pos rfl
theorem upd_ne (f : Nat → Value) (i j : Nat) (v : Value) (h : j ≠ i) : upd f i v j = f j := if_neg h
theorem row_set {w : World} {b : Nat} {t : TypeId} {n : Nat} {f : Nat → Value} (h : w.rowIs b t n f) (i : Nat) (v : Value) : (w.setCell ⟨b, i, none⟩ v).rowIs b t n (upd f i v) := h.set i v

/-- The pointer to a timer's block; no timer. -/
def tp (h : Option Nat) : Value := .pointer (h.map fun b => ⟨b, 0, none⟩)

/-- What push leaves: the slot at ⟨B, o⟩ leads to t, t to what the slot led to. -/
structure Pushed (B tB nB o t : Nat) (F T : Nat → Value) (c : Int) (h : Option Nat) (S : Nat → Prop) (w w' : World) : Prop where
  slot : w'.rowIs B tB nB (upd (upd F o (tp (some t))) (o + 1) (.int .i64 (c + 1)))
  tim : w'.rowIs t 31 9 (upd (upd (upd T 4 (.pointer (some ⟨B, o, none⟩))) 5 (.pointer none)) 6 (tp h))
  only : Only S w w'

set_option maxHeartbeats 1000000 in
set_option maxRecDepth 100000 in
/-- The slot leads to a timer already. -/
theorem push_on (B tB nB o t h : Nat) (F T H : Nat → Value) (c : Int) (w : World) (ho : o + 3 < nB) (c0 : 0 ≤ c) (c1 : c ≤ 1000000) (hBt : B ≠ t) (hBh : B ≠ h) (hth : t ≠ h)
    (hB : w.rowIs B tB nB F) (ht : w.rowIs t 31 9 T) (hh : w.rowIs h 31 9 H) (e0 : F o = tp (some h)) (e1 : F (o + 1) = .int .i64 c) :
    Calls Ybad.prog 5 #[.pointer (some ⟨B, o, none⟩), .pointer (some ⟨t, 0, none⟩)] w fun e w' => e = .returned (.tuple #[]) ∧
      Pushed B tB nB o t F T c (some h) (fun k => k = B ∨ k = t ∨ k = h) w w' ∧ w'.rowIs h 31 9 (upd H 5 (tp (some t))) := by
  have a0 : w.cell? ⟨B, o, none⟩ = some (.pointer (some ⟨h, 0, none⟩)) := by rw [hB.cell (by omega), e0]; rfl
  have a1 : w.cell? ⟨B, o + 1, none⟩ = some (.int .i64 c) := by rw [hB.cell (by omega), e1]
  have t4 := ht.cell (i := 4) (by omega)
  have t5 := ht.cell (i := 5) (by omega)
  have t6 := ht.cell (i := 6) (by omega)
  have h5 := hh.cell (i := 5) (by omega)
  have f0 := hB.frozen o
  have f1 := hB.frozen (o + 1)
  have g4 := ht.frozen 4
  have g5 := ht.frozen 5
  have g6 := ht.frozen 6
  have k5 := hh.frozen 5
  have HB := hide hB
  have HT := hide ht
  have HH := hide hh
  clear hB ht hh e0 e1
  generalize T 4 = v4 at t4
  generalize T 5 = v5 at t5
  generalize T 6 = v6 at t6
  generalize H 5 = v7 at h5
  go_enter Ybad.func5, Ybad.ntmps5
  go_wp2_with fail
  go_end0
  refine ⟨rfl, ⟨?_, ?_, ?_⟩, ?_⟩
  · exact row_set (row_set ((((( unhide HB).setOther (a := ⟨t, 4, none⟩) hBt _).setOther (a := ⟨t, 5, none⟩) hBt _).setOther (a := ⟨t, 6, none⟩) hBt _).setOther (a := ⟨h, 5, none⟩) hBh _) o _) (o + 1) _
  · exact (((row_set (row_set (row_set (unhide HT) 4 _) 5 _) 6 _).setOther (a := ⟨h, 5, none⟩) hth _).setOther (a := ⟨B, o, none⟩) (Ne.symm hBt) _).setOther (a := ⟨B, o + 1, none⟩) (Ne.symm hBt) _
  · exact ((((((Only.refl _ w).setCell (a := ⟨t, 4, none⟩) (.inr (.inl rfl)) _).setCell (a := ⟨t, 5, none⟩) (.inr (.inl rfl)) _).setCell (a := ⟨t, 6, none⟩) (.inr (.inl rfl)) _).setCell (a := ⟨h, 5, none⟩) (.inr (.inr rfl)) _).setCell (a := ⟨B, o, none⟩) (.inl rfl) _).setCell (a := ⟨B, o + 1, none⟩) (.inl rfl) _
  · exact ((row_set ((((unhide HH).setOther (a := ⟨t, 4, none⟩) (Ne.symm hth) _).setOther (a := ⟨t, 5, none⟩) (Ne.symm hth) _).setOther (a := ⟨t, 6, none⟩) (Ne.symm hth) _) 5 _).setOther (a := ⟨B, o, none⟩) (Ne.symm hBh) _).setOther (a := ⟨B, o + 1, none⟩) (Ne.symm hBh) _

set_option maxHeartbeats 1000000 in
set_option maxRecDepth 100000 in
/-- An empty slot of no level. -/
theorem push_bare (B tB nB o t : Nat) (F T : Nat → Value) (c : Int) (w : World) (ho : o + 3 < nB) (c0 : 0 ≤ c) (c1 : c ≤ 1000000) (hBt : B ≠ t)
    (hB : w.rowIs B tB nB F) (ht : w.rowIs t 31 9 T) (e0 : F o = tp none) (e1 : F (o + 1) = .int .i64 c) (e2 : F (o + 2) = .pointer none) :
    Calls Ybad.prog 5 #[.pointer (some ⟨B, o, none⟩), .pointer (some ⟨t, 0, none⟩)] w fun e w' => e = .returned (.tuple #[]) ∧
      Pushed B tB nB o t F T c none (fun k => k = B ∨ k = t) w w' := by
  have a0 : w.cell? ⟨B, o, none⟩ = some (.pointer none) := by rw [hB.cell (by omega), e0]; rfl
  have a1 : w.cell? ⟨B, o + 1, none⟩ = some (.int .i64 c) := by rw [hB.cell (by omega), e1]
  have a2 : w.cell? ⟨B, o + 2, none⟩ = some (.pointer none) := by rw [hB.cell (by omega), e2]
  have t4 := ht.cell (i := 4) (by omega)
  have t5 := ht.cell (i := 5) (by omega)
  have t6 := ht.cell (i := 6) (by omega)
  have f0 := hB.frozen o
  have f1 := hB.frozen (o + 1)
  have g4 := ht.frozen 4
  have g5 := ht.frozen 5
  have g6 := ht.frozen 6
  have HB := hide hB
  have HT := hide ht
  clear hB ht e0 e1 e2
  generalize T 4 = v4 at t4
  generalize T 5 = v5 at t5
  generalize T 6 = v6 at t6
  go_enter Ybad.func5, Ybad.ntmps5
  go_wp2_with fail
  go_end0
  refine ⟨rfl, ?_, ?_, ?_⟩
  · exact row_set (row_set ((((unhide HB).setOther (a := ⟨t, 4, none⟩) hBt _).setOther (a := ⟨t, 5, none⟩) hBt _).setOther (a := ⟨t, 6, none⟩) hBt _) o _) (o + 1) _
  · exact ((row_set (row_set (row_set (unhide HT) 4 _) 5 _) 6 _).setOther (a := ⟨B, o, none⟩) (Ne.symm hBt) _).setOther (a := ⟨B, o + 1, none⟩) (Ne.symm hBt) _
  · exact (((((Only.refl _ w).setCell (a := ⟨t, 4, none⟩) (.inr rfl) _).setCell (a := ⟨t, 5, none⟩) (.inr rfl) _).setCell (a := ⟨t, 6, none⟩) (.inr rfl) _).setCell (a := ⟨B, o, none⟩) (.inl rfl) _).setCell (a := ⟨B, o + 1, none⟩) (.inl rfl) _

set_option maxHeartbeats 1000000 in
set_option maxRecDepth 100000 in
/-- An empty slot of a level: it is marked. -/
theorem push_first (B nB o t l u j m : Nat) (F T : Nat → Value) (c n : Int) (w : World) (ho : o + 3 < nB) (c0 : 0 ≤ c) (c1 : c ≤ 1000000) (n0 : 0 ≤ n) (n1 : n ≤ 1000000) (hj : j < 64) (hm : m < 18446744073709551616)
    (hBt : B ≠ t) (hBl : B ≠ l) (hBu : B ≠ u) (htl : t ≠ l) (htu : t ≠ u) (hlu : l ≠ u)
    (hB : w.rowIs B 61 nB F) (ht : w.rowIs t 31 9 T) (hl : w.rowIs l 76 4 (levF B u n)) (hu : w.rowIs u 45 1 (oneF (.int .u64 m)))
    (e0 : F o = tp none) (e1 : F (o + 1) = .int .i64 c) (e2 : F (o + 2) = .pointer (some ⟨l, 0, none⟩)) (e3 : F (o + 3) = .int .i64 j) :
    Calls Ybad.prog 5 #[.pointer (some ⟨B, o, none⟩), .pointer (some ⟨t, 0, none⟩)] w fun e w' => e = .returned (.tuple #[]) ∧
      Pushed B 61 nB o t F T c none (fun k => k = B ∨ k = t ∨ k = l ∨ k = u) w w' ∧ w'.rowIs l 76 4 (levF B u (n + 1)) ∧ w'.rowIs u 45 1 (oneF (.int .u64 ((m ||| 2 ^ j : Nat) : Int))) := by
  have a0 : w.cell? ⟨B, o, none⟩ = some (.pointer none) := by rw [hB.cell (by omega), e0]; rfl
  have a1 : w.cell? ⟨B, o + 1, none⟩ = some (.int .i64 c) := by rw [hB.cell (by omega), e1]
  have a2 : w.cell? ⟨B, o + 2, none⟩ = some (.pointer (some ⟨l, 0, none⟩)) := by rw [hB.cell (by omega), e2]
  have a3 : w.cell? ⟨B, o + 3, none⟩ = some (.int .i64 j) := by rw [hB.cell (by omega), e3]
  have hmk := fun w hl hu => mark_any l B u j n m w hj hm n0 n1 hlu hl hu
  have HM := hide hmk
  have HB := hide hB
  have HT := hide ht
  have HL := hide hl
  have HU := hide hu
  clear hB ht e0 e1 e2 e3 hmk hl hu
  go_enter Ybad.func5, Ybad.ntmps5
  go_wp2_with fail
  go_region_with (go_at_call 11; refine (unhide HM _ (by exact (unhide HL).drew) (by exact (unhide HU).drew)).mono ?_; rintro e w1 ⟨rfl, l1, u1, o1⟩)
  all_goals
    have b1 := o1.row (fun e => by rcases e with e | e; exact hBl e; exact hBu e) (unhide HB)
    have r1 := o1.row (fun e => by rcases e with e | e; exact htl e; exact htu e) (unhide HT)
    have q0 := (b1.cell (i := o) (by omega)).trans (((unhide HB).cell (i := o) (by omega)).symm.trans a0)
    have q1 := (b1.cell (i := o + 1) (by omega)).trans (((unhide HB).cell (i := o + 1) (by omega)).symm.trans a1)
    have t4 := r1.cell (i := 4) (by omega)
    have t5 := r1.cell (i := 5) (by omega)
    have t6 := r1.cell (i := 6) (by omega)
    have f0 := b1.frozen o
    have f1 := b1.frozen (o + 1)
    have g4 := r1.frozen 4
    have g5 := r1.frozen 5
    have g6 := r1.frozen 6
    have HB1 := hide b1
    have HR1 := hide r1
    have HL1 := hide l1
    have HU1 := hide u1
    clear b1 r1 l1 u1 HB HT HL HU HM a0 a1 a2 a3
    generalize T 4 = v4 at t4
    generalize T 5 = v5 at t5
    generalize T 6 = v6 at t6
    go_wp2_with fail
    go_end0
    refine ⟨rfl, ⟨?_, ?_, ?_⟩, ?_, ?_⟩
    · exact row_set (row_set ((((unhide HB1).setOther (a := ⟨t, 4, none⟩) hBt _).setOther (a := ⟨t, 5, none⟩) hBt _).setOther (a := ⟨t, 6, none⟩) hBt _) o _) (o + 1) _
    · exact ((row_set (row_set (row_set (unhide HR1) 4 _) 5 _) 6 _).setOther (a := ⟨B, o, none⟩) (Ne.symm hBt) _).setOther (a := ⟨B, o + 1, none⟩) (Ne.symm hBt) _
    · have o2 : Only (fun k => k = B ∨ k = t ∨ k = l ∨ k = u) w w1 := ⟨o1.os, o1.tape, o1.output, o1.size, fun k hk => o1.block k (fun e => hk (.inr (.inr e)))⟩
      exact ((((o2.setCell (a := ⟨t, 4, none⟩) (.inr (.inl rfl)) _).setCell (a := ⟨t, 5, none⟩) (.inr (.inl rfl)) _).setCell (a := ⟨t, 6, none⟩) (.inr (.inl rfl)) _).setCell (a := ⟨B, o, none⟩) (.inl rfl) _).setCell (a := ⟨B, o + 1, none⟩) (.inl rfl) _
    · exact (((((unhide HL1).setOther (a := ⟨t, 4, none⟩) (Ne.symm htl) _).setOther (a := ⟨t, 5, none⟩) (Ne.symm htl) _).setOther (a := ⟨t, 6, none⟩) (Ne.symm htl) _).setOther (a := ⟨B, o, none⟩) (Ne.symm hBl) _).setOther (a := ⟨B, o + 1, none⟩) (Ne.symm hBl) _
    · exact (((((unhide HU1).setOther (a := ⟨t, 4, none⟩) (Ne.symm htu) _).setOther (a := ⟨t, 5, none⟩) (Ne.symm htu) _).setOther (a := ⟨t, 6, none⟩) (Ne.symm htu) _).setOther (a := ⟨B, o, none⟩) (Ne.symm hBu) _).setOther (a := ⟨B, o + 1, none⟩) (Ne.symm hBu) _
end Go.Proofs.YbulkcyrqDoor
