/-
  slot.take (18), level.first (32), newLevel (10).
-/
import Derived.Test.YbulkcyrqDoorPush
import Derived.Test.YbulkcyrqDoorShelf
import Derived.KernelRfl
namespace Go.Proofs.YbulkcyrqDoor
open Go.RowKit

theorem tz_any (x : Nat) (hx : x < 18446744073709551616) (w : World) (hT : TabAt 0 Lib.deBruijn64tab w) :
    Calls Ybad.prog 42 #[.int .u64 x] w fun e w' => e = .returned (.int .i64 (Lib.ctz 64 x)) ∧ w = w' := by
  have h : Calls Ybad.prog 42 #[.int .u64 x] w _ := Any7.bits_TrailingZeros64 Ybad.lays29 x hx w (fun _ => hT)
  refine h.mono ?_
  rintro e w' ⟨rfl, rfl⟩
  exact ⟨rfl, rfl⟩

set_option maxHeartbeats 1000000 in
set_option maxRecDepth 100000 in
theorem first_any (l s u m k : Nat) (c : Int) (w : World) (hm : m < 18446744073709551616) (hm0 : m ≠ 0) (hk : Lib.ctz 64 m = k) (hk64 : k ≤ 64) (hT : TabAt 0 Lib.deBruijn64tab w)
    (hl : w.rowIs l 76 4 (levF s u c)) (hu : w.rowIs u 45 1 (oneF (.int .u64 m))) :
    Calls Ybad.prog 32 #[.pointer (some ⟨l, 0, none⟩), .int .i64 0] w fun e w' => e = .returned (.int .i64 k) ∧ Only (fun _ => False) w w' := by
  have a1 : w.cell? ⟨l, 2, none⟩ = some (.slice (some ⟨u, 0, none⟩) 1 1) := hl.cell (i := 2) (by omega)
  have a3 : w.cell? ⟨u, 0, none⟩ = some (.int .u64 m) := hu.cell (i := 0) (by omega)
  have hz := fun w hT => tz_any m hm w hT
  rw [hk] at hz
  have HZ := hide hz
  have HT := hide hT
  have hne : ((m : Int) != 0) = true := by rw [bne_iff_ne]; omega
  clear hl hu hz hT
  go_enter Ybad.func32, Ybad.ntmps32
  go_wp2_with fail
  refine wp_loop_rounds 1 ?_
  rw [rounds_succ]
  go_wp2_with fail
  refine (unhide HZ _ (unhide HT)).mono ?_
  rintro e w1 ⟨rfl, rfl⟩
  go_wp2_with fail
  go_ret
  exact ⟨rfl, Only.refl _ _⟩

set_option maxHeartbeats 1000000 in
set_option maxRecDepth 100000 in
theorem take_bare (B tB nB o h : Nat) (F : Nat → Value) (c : Int) (w : World) (ho : o + 3 < nB) (hB : w.rowIs B tB nB F) (e0 : F o = tp (some h)) (e1 : F (o + 1) = .int .i64 c) (e2 : F (o + 2) = .pointer none) :
    Calls Ybad.prog 18 #[.pointer (some ⟨B, o, none⟩)] w fun e w' => e = .returned (tp (some h)) ∧ w'.rowIs B tB nB (upd (upd F o (.pointer none)) (o + 1) (.int .i64 0)) ∧ Only (fun k => k = B) w w' := by
  have a0 : w.cell? ⟨B, o, none⟩ = some (.pointer (some ⟨h, 0, none⟩)) := by rw [hB.cell (by omega), e0]; rfl
  have a1 : w.cell? ⟨B, o + 1, none⟩ = some (.int .i64 c) := by rw [hB.cell (by omega), e1]
  have a2 : w.cell? ⟨B, o + 2, none⟩ = some (.pointer none) := by rw [hB.cell (by omega), e2]
  have f0 := hB.frozen o
  have f1 := hB.frozen (o + 1)
  have HB := hide hB
  clear hB e0 e1 e2
  go_enter Ybad.func18, Ybad.ntmps18
  go_wp2_with fail
  go_ret
  exact ⟨rfl, row_set (row_set (unhide HB) o _) (o + 1) _, ((Only.refl (fun k => k = B) w).setCell (a := ⟨B, o, none⟩) rfl _).setCell (a := ⟨B, o + 1, none⟩) rfl _⟩

set_option maxHeartbeats 1000000 in
set_option maxRecDepth 100000 in
theorem take_lev (B nB o h l u j m m' : Nat) (F : Nat → Value) (c n : Int) (w : World) (ho : o + 3 < nB) (hj : j < 64) (n0 : 1 ≤ n) (n1 : n ≤ 1000000) (hBl : B ≠ l) (hBu : B ≠ u) (hlu : l ≠ u)
    (han : bits .andNot .u64 (m : Int) (IntKind.u64.wrap (2 ^ j)) = (m' : Int))
    (hB : w.rowIs B 61 nB F) (hl : w.rowIs l 76 4 (levF B u n)) (hu : w.rowIs u 45 1 (oneF (.int .u64 m)))
    (e0 : F o = tp (some h)) (e1 : F (o + 1) = .int .i64 c) (e2 : F (o + 2) = .pointer (some ⟨l, 0, none⟩)) (e3 : F (o + 3) = .int .i64 j) :
    Calls Ybad.prog 18 #[.pointer (some ⟨B, o, none⟩)] w fun e w' => e = .returned (tp (some h)) ∧ w'.rowIs B 61 nB (upd (upd F o (.pointer none)) (o + 1) (.int .i64 0)) ∧
      w'.rowIs l 76 4 (levF B u (n - 1)) ∧ w'.rowIs u 45 1 (oneF (.int .u64 m')) ∧ Only (fun k => k = B ∨ k = l ∨ k = u) w w' := by
  have a0 : w.cell? ⟨B, o, none⟩ = some (.pointer (some ⟨h, 0, none⟩)) := by rw [hB.cell (by omega), e0]; rfl
  have a1 : w.cell? ⟨B, o + 1, none⟩ = some (.int .i64 c) := by rw [hB.cell (by omega), e1]
  have a2 : w.cell? ⟨B, o + 2, none⟩ = some (.pointer (some ⟨l, 0, none⟩)) := by rw [hB.cell (by omega), e2]
  have a3 : w.cell? ⟨B, o + 3, none⟩ = some (.int .i64 j) := by rw [hB.cell (by omega), e3]
  have f0 := hB.frozen o
  have f1 := hB.frozen (o + 1)
  have hum := fun w hl hu => unmark_any l B u j n m m' w hj n0 n1 hlu han hl hu
  have HM := hide hum
  have HB := hide hB
  have HL := hide hl
  have HU := hide hu
  clear hB e0 e1 e2 e3 hum hl hu han
  go_enter Ybad.func18, Ybad.ntmps18
  go_wp2_with fail
  go_region_with (go_at_call 30; refine (unhide HM _ (by exact (((unhide HL).setOther (a := ⟨B, o, none⟩) (Ne.symm hBl) _).setOther (a := ⟨B, o + 1, none⟩) (Ne.symm hBl) _).drew) (by exact (((unhide HU).setOther (a := ⟨B, o, none⟩) (Ne.symm hBu) _).setOther (a := ⟨B, o + 1, none⟩) (Ne.symm hBu) _).drew)).mono ?_; rintro e w1 ⟨rfl, l1, u1, o1⟩)
  all_goals
    go_wp2_with fail
    go_ret
    refine ⟨rfl, ?_, l1, u1, ?_⟩
    · exact o1.row (fun e => by rcases e with e | e; exact hBl e; exact hBu e) ((row_set (row_set (unhide HB) o _) (o + 1) _).drew)
    · have o2 : Only (fun k => k = B ∨ k = l ∨ k = u) w ((w.setCell ⟨B, o, none⟩ (.pointer none)).setCell ⟨B, o + 1, none⟩ (.int .i64 0)).drew := (((Only.refl _ w).setCell (a := ⟨B, o, none⟩) (.inl rfl) _).setCell (a := ⟨B, o + 1, none⟩) (.inl rfl) _).drew
      exact o2.trans (o1.mono (fun k e => .inr e))

/-- The cells of a ring: of slot j its head, its number of timers, its level, its number. -/
def slotsF (l : Nat) (hd : Nat → Value) (cnt : Nat → Int) : Nat → Value := fun o =>
  if o % 4 = 0 then hd (o / 4) else if o % 4 = 1 then .int .i64 (cnt (o / 4)) else if o % 4 = 2 then .pointer (some ⟨l, 0, none⟩) else .int .i64 ((o / 4 : Nat) : Int)
theorem slots0 (l : Nat) (hd : Nat → Value) (cnt : Nat → Int) (j : Nat) : slotsF l hd cnt (j * 4) = hd j := by
  unfold slotsF; rw [if_pos (by omega), show j * 4 / 4 = j from by omega]
theorem slots1 (l : Nat) (hd : Nat → Value) (cnt : Nat → Int) (j : Nat) : slotsF l hd cnt (j * 4 + 1) = .int .i64 (cnt j) := by
  unfold slotsF; rw [if_neg (by omega), if_pos (by omega), show (j * 4 + 1) / 4 = j from by omega]
theorem slots2 (l : Nat) (hd : Nat → Value) (cnt : Nat → Int) (j : Nat) : slotsF l hd cnt (j * 4 + 2) = .pointer (some ⟨l, 0, none⟩) := by
  unfold slotsF; rw [if_neg (by omega), if_neg (by omega), if_pos (by omega)]
theorem slots3 (l : Nat) (hd : Nat → Value) (cnt : Nat → Int) (j : Nat) : slotsF l hd cnt (j * 4 + 3) = .int .i64 (j : Int) := by
  unfold slotsF; rw [if_neg (by omega), if_neg (by omega), if_neg (by omega), show (j * 4 + 3) / 4 = j from by omega]

theorem info61 : (Ybad.prog.info? 61).map (fun i => (i.zero, i.size, i.bytes)) = some (some (.agg #[.pointer none, .int .i64 0, .pointer none, .int .i64 0]), 4, 32) := by kernel_rfl
theorem info45 : (Ybad.prog.info? 45).map (fun i => (i.zero, i.size, i.bytes)) = some (some (.int .u64 0), 1, 8) := by kernel_rfl

def noSlots : Array Value := madeCells #[.pointer none, .int .i64 0, .pointer none, .int .i64 0] 256
theorem make73 (w : World) : (Instr.makeSlice 73 (.int .i64 64) (.int .i64 64)).run Ybad.prog w = .ok (.slice (some ⟨w.heap.size, 0, none⟩) 64 64) (w.alloc (.cells noSlots 61)) := by
  obtain ⟨i, hi, hz0, hz1, hz2⟩ := info_parts info61
  have := run_make (P := Ybad.prog) w 73 61 i _ Ybad.underlying73 hi hz0 .i64 .i64 64 64 (by omega) (by omega) (by rw [hz2]; decide) (by omega)
  rw [hz1] at this
  exact this
theorem make74 (w : World) : (Instr.makeSlice 74 (.int .i64 1) (.int .i64 1)).run Ybad.prog w = .ok (.slice (some ⟨w.heap.size, 0, none⟩) 1 1) (w.alloc (.cells #[.int .u64 0] 45)) := by
  obtain ⟨i, hi, hz0, hz1, hz2⟩ := info_parts info45
  have := run_make (P := Ybad.prog) w 74 45 i _ Ybad.underlying74 hi hz0 .i64 .i64 1 1 (by omega) (by omega) (by rw [hz2]; decide) (by omega)
  rw [hz1] at this
  have e : madeCells (Value.int IntKind.u64 0).cells (Int.toNat 1 * 1) = #[.int .u64 0] := by kernel_rfl
  rw [e] at this
  exact this

/-- The ring while it is laid out: the first k slots know their level. -/
def layF (l k : Nat) : Nat → Value := fun o => if o < k * 4 then slotsF l (fun _ => .pointer none) (fun _ => 0) o else if o % 4 = 0 then .pointer none else if o % 4 = 1 then .int .i64 0 else if o % 4 = 2 then .pointer none else .int .i64 0
theorem lay_start (l : Nat) (w : World) : (w.alloc (.cells noSlots 61)).rowIs w.heap.size 61 256 (layF l 0) := by
  have h := World.rowIs_alloc w noSlots 61 (layF l 0) (fun i hi => by
    have hi' : i < 256 := by simpa [noSlots, size_madeCells] using hi
    unfold noSlots layF
    rw [if_neg (by omega)]
    simp only [madeCells]
    have h4 : i % 4 = 0 ∨ i % 4 = 1 ∨ i % 4 = 2 ∨ i % 4 = 3 := by omega
    rcases h4 with h | h | h | h <;> simp [h] <;> exact ⟨i, by simp [hi'], by simp [h]⟩)
  have e : noSlots.size = 256 := by simp [noSlots, size_madeCells]
  rw [e] at h
  exact h
theorem lay_step {w : World} {s l k : Nat} (h : w.rowIs s 61 256 (layF l k)) :
    ((((w.setCell ⟨s, k * 4, none⟩ (.pointer none)).setCell ⟨s, k * 4 + 1, none⟩ (.int .i64 0)).setCell ⟨s, k * 4 + 2, none⟩ (.pointer (some ⟨l, 0, none⟩))).setCell ⟨s, k * 4 + 3, none⟩ (.int .i64 (k : Int))).rowIs s 61 256 (layF l (k + 1)) := by
  refine (row_set (row_set (row_set (row_set h (k * 4) _) (k * 4 + 1) _) (k * 4 + 2) _) (k * 4 + 3) _).congr fun o _ => ?_
  unfold upd
  by_cases e3 : o = k * 4 + 3
  · subst e3; rw [if_pos rfl]; unfold layF; rw [if_pos (by omega), slots3]
  rw [if_neg e3]
  by_cases e2 : o = k * 4 + 2
  · subst e2; rw [if_pos rfl]; unfold layF; rw [if_pos (by omega), slots2]
  rw [if_neg e2]
  by_cases e1 : o = k * 4 + 1
  · subst e1; rw [if_pos rfl]; unfold layF; rw [if_pos (by omega), slots1]
  rw [if_neg e1]
  by_cases e0 : o = k * 4
  · subst e0; rw [if_pos rfl]; unfold layF; rw [if_pos (by omega), slots0]
  rw [if_neg e0]
  unfold layF
  by_cases hlt : o < k * 4
  · rw [if_pos hlt, if_pos (by omega)]
  · rw [if_neg hlt, if_neg (show ¬ o < (k + 1) * 4 by omega)]
theorem four_other {w : World} {b s o : Nat} {t : TypeId} {n : Nat} {f : Nat → Value} {v0 v1 v2 v3 : Value} (h : w.rowIs b t n f) (hne : b ≠ s) :
    ((((w.setCell ⟨s, o, none⟩ v0).setCell ⟨s, o + 1, none⟩ v1).setCell ⟨s, o + 2, none⟩ v2).setCell ⟨s, o + 3, none⟩ v3).rowIs b t n f :=
  (((h.setOther (a := ⟨s, o, none⟩) hne _).setOther (a := ⟨s, o + 1, none⟩) hne _).setOther (a := ⟨s, o + 2, none⟩) hne _).setOther (a := ⟨s, o + 3, none⟩) hne _
theorem four_below {B : Nat} {x w : World} {s o : Nat} {v0 v1 v2 v3 : Value} (h : Below B x w) (hs : B ≤ s) :
    Below B x ((((w.setCell ⟨s, o, none⟩ v0).setCell ⟨s, o + 1, none⟩ v1).setCell ⟨s, o + 2, none⟩ v2).setCell ⟨s, o + 3, none⟩ v3) :=
  (((h.setCell (p := ⟨s, o, none⟩) hs _).setCell (p := ⟨s, o + 1, none⟩) hs _).setCell (p := ⟨s, o + 2, none⟩) hs _).setCell (p := ⟨s, o + 3, none⟩) hs _
theorem lay_done {w : World} {s l : Nat} (h : w.rowIs s 61 256 (layF l 64)) : w.rowIs s 61 256 (slotsF l (fun _ => .pointer none) (fun _ => 0)) :=
  h.congr fun o ho => by unfold layF; rw [if_pos (by omega)]

set_option maxHeartbeats 1000000 in
set_option maxRecDepth 100000 in
theorem newLevel_any (w : World) :
    Calls Ybad.prog 10 #[.int .i64 1, .int .i64 64] w fun e w' => ∃ l s u, e = .returned (.pointer (some ⟨l, 0, none⟩)) ∧ w'.rowIs l 76 4 (levF s u 0) ∧ w'.rowIs u 45 1 (oneF (.int .u64 0)) ∧
      w'.rowIs s 61 256 (slotsF l (fun _ => .pointer none) (fun _ => 0)) ∧ w.heap.size ≤ l ∧ w.heap.size ≤ s ∧ w.heap.size ≤ u ∧ Below w.heap.size w w' := by
  have m1 := make73
  have m2 := make74
  go_enter Ybad.func10, Ybad.ntmps10
  go_wp2_with fail
  go_region
  · go_wp2_with fail
    have hl : (((w.alloc (.cells noSlots 61)).alloc (.cells #[.int .u64 0] 45)).alloc (.cells #[.int .i64 1, .slice (some ⟨w.heap.size, 0, none⟩) 64 64, .slice (some ⟨w.heap.size + 1, 0, none⟩) 1 1, .int .i64 0] 76)).drew.rowIs (w.heap.size + 1 + 1) 76 4 (levF (w.heap.size) (w.heap.size + 1) 0) := by
      have := World.rowIs_alloc ((w.alloc (.cells noSlots 61)).alloc (.cells #[.int .u64 0] 45)) #[.int .i64 1, .slice (some ⟨w.heap.size, 0, none⟩) 64 64, .slice (some ⟨w.heap.size + 1, 0, none⟩) 1 1, .int .i64 0] 76 (levF (w.heap.size) (w.heap.size + 1) 0) (fun i hi => by
        match i, hi with
        | 0, _ => rfl
        | 1, _ => rfl
        | 2, _ => rfl
        | 3, _ => rfl)
      simp only [World.size_alloc] at this
      exact this.drew
    have hu : (((w.alloc (.cells noSlots 61)).alloc (.cells #[.int .u64 0] 45)).alloc (.cells #[.int .i64 1, .slice (some ⟨w.heap.size, 0, none⟩) 64 64, .slice (some ⟨w.heap.size + 1, 0, none⟩) 1 1, .int .i64 0] 76)).drew.rowIs (w.heap.size + 1) 45 1 (oneF (.int .u64 0)) := by
      have h := (World.rowIs_alloc (w.alloc (.cells noSlots 61)) #[.int .u64 0] 45 (oneF (.int .u64 0)) (fun i hi => by match i, hi with | 0, _ => rfl))
      rw [World.size_alloc] at h
      exact h.alloc _
    have hs : (((w.alloc (.cells noSlots 61)).alloc (.cells #[.int .u64 0] 45)).alloc (.cells #[.int .i64 1, .slice (some ⟨w.heap.size, 0, none⟩) 64 64, .slice (some ⟨w.heap.size + 1, 0, none⟩) 1 1, .int .i64 0] 76)).drew.rowIs (w.heap.size) 61 256 (layF (w.heap.size + 1 + 1) 0) := ((lay_start _ w).alloc _).alloc _
    have hb : Below w.heap.size w (((w.alloc (.cells noSlots 61)).alloc (.cells #[.int .u64 0] 45)).alloc (.cells #[.int .i64 1, .slice (some ⟨w.heap.size, 0, none⟩) 64 64, .slice (some ⟨w.heap.size + 1, 0, none⟩) 1 1, .int .i64 0] 76)).drew := ((((Below.refl _ _).alloc (Nat.le_refl _) _).alloc (by simp) _).alloc (by simp; omega) _).drew
    generalize (((w.alloc (.cells noSlots 61)).alloc (.cells #[.int .u64 0] 45)).alloc (.cells #[.int .i64 1, .slice (some ⟨w.heap.size, 0, none⟩) 64 64, .slice (some ⟨w.heap.size + 1, 0, none⟩) 1 1, .int .i64 0] 76)).drew = wl at *
    go_loopw [21] (fun i wr => ∃ k : Nat, k ≤ 64 ∧ i = .int .i64 k ∧ wr.rowIs (w.heap.size + 1 + 1) 76 4 (levF (w.heap.size) (w.heap.size + 1) 0) ∧ wr.rowIs (w.heap.size + 1) 45 1 (oneF (.int .u64 0)) ∧ wr.rowIs (w.heap.size) 61 256 (layF (w.heap.size + 1 + 1) k) ∧ Below w.heap.size w wr) (fun i _ => 64 - (intOf i).toNat)
    case atStart => exact ⟨0, by omega, rfl, hl, hu, hs, hb⟩
    case round =>
      obtain ⟨k, hk, rfl, hl, hu, hs, hb⟩ := hrel
      by_cases hk64 : k < 64
      · have a1 : wr.cell? ⟨w.heap.size + 1 + 1, 1, none⟩ = some (.slice (some ⟨w.heap.size, 0, none⟩) 64 64) := hl.cell (i := 1) (by omega)
        have s0 := hs.cell (i := k * 4) (by omega)
        have s1 := hs.cell (i := k * 4 + 1) (by omega)
        have s2 := hs.cell (i := k * 4 + 2) (by omega)
        have s3 := hs.cell (i := k * 4 + 3) (by omega)
        have f0 := hs.frozen (k * 4)
        have f1 := hs.frozen (k * 4 + 1)
        have f2 := hs.frozen (k * 4 + 2)
        have f3 := hs.frozen (k * 4 + 3)
        have HST := hide (lay_step hs)
        have HL := hide hl
        have HU := hide hu
        clear hs hl hu m1 m2
        generalize layF (w.heap.size + 1 + 1) k (k * 4) = v0 at s0
        generalize layF (w.heap.size + 1 + 1) k (k * 4 + 1) = v1 at s1
        generalize layF (w.heap.size + 1 + 1) k (k * 4 + 2) = v2 at s2
        generalize layF (w.heap.size + 1 + 1) k (k * 4 + 3) = v3 at s3
        go_wp2_with fail
        go_roundw
        case rel => exact ⟨k + 1, by omega, by go_num, four_other (unhide HL) (by omega), four_other (unhide HU) (by omega), unhide HST, four_below hb (by omega)⟩
        case measure => simp [intOf]; omega
      · have hk' : k = 64 := by omega
        subst hk'
        have HL := hide hl
        have HU := hide hu
        have HS := hide (lay_done hs)
        clear hl hu hs
        go_wp2_with fail
        go_ret
        exact ⟨_, _, _, rfl, unhide HL, unhide HU, unhide HS, by omega, by omega, by omega, hb⟩
  · go_wp2_with fail
    have hl : (((w.alloc (.cells #[.int .u64 0] 45)).alloc (.cells noSlots 61)).alloc (.cells #[.int .i64 1, .slice (some ⟨w.heap.size + 1, 0, none⟩) 64 64, .slice (some ⟨w.heap.size, 0, none⟩) 1 1, .int .i64 0] 76)).drew.rowIs (w.heap.size + 1 + 1) 76 4 (levF (w.heap.size + 1) (w.heap.size) 0) := by
      have := World.rowIs_alloc ((w.alloc (.cells #[.int .u64 0] 45)).alloc (.cells noSlots 61)) #[.int .i64 1, .slice (some ⟨w.heap.size + 1, 0, none⟩) 64 64, .slice (some ⟨w.heap.size, 0, none⟩) 1 1, .int .i64 0] 76 (levF (w.heap.size + 1) (w.heap.size) 0) (fun i hi => by
        match i, hi with
        | 0, _ => rfl
        | 1, _ => rfl
        | 2, _ => rfl
        | 3, _ => rfl)
      simp only [World.size_alloc] at this
      exact this.drew
    have hu : (((w.alloc (.cells #[.int .u64 0] 45)).alloc (.cells noSlots 61)).alloc (.cells #[.int .i64 1, .slice (some ⟨w.heap.size + 1, 0, none⟩) 64 64, .slice (some ⟨w.heap.size, 0, none⟩) 1 1, .int .i64 0] 76)).drew.rowIs (w.heap.size) 45 1 (oneF (.int .u64 0)) := ((World.rowIs_alloc w #[.int .u64 0] 45 (oneF (.int .u64 0)) (fun i hi => by match i, hi with | 0, _ => rfl)).alloc _).alloc _
    have hs : (((w.alloc (.cells #[.int .u64 0] 45)).alloc (.cells noSlots 61)).alloc (.cells #[.int .i64 1, .slice (some ⟨w.heap.size + 1, 0, none⟩) 64 64, .slice (some ⟨w.heap.size, 0, none⟩) 1 1, .int .i64 0] 76)).drew.rowIs (w.heap.size + 1) 61 256 (layF (w.heap.size + 1 + 1) 0) := by
      have h := lay_start (w.heap.size + 1 + 1) (w.alloc (.cells #[.int .u64 0] 45))
      rw [World.size_alloc] at h
      exact h.alloc _
    have hb : Below w.heap.size w (((w.alloc (.cells #[.int .u64 0] 45)).alloc (.cells noSlots 61)).alloc (.cells #[.int .i64 1, .slice (some ⟨w.heap.size + 1, 0, none⟩) 64 64, .slice (some ⟨w.heap.size, 0, none⟩) 1 1, .int .i64 0] 76)).drew := ((((Below.refl _ _).alloc (Nat.le_refl _) _).alloc (by simp) _).alloc (by simp; omega) _).drew
    generalize (((w.alloc (.cells #[.int .u64 0] 45)).alloc (.cells noSlots 61)).alloc (.cells #[.int .i64 1, .slice (some ⟨w.heap.size + 1, 0, none⟩) 64 64, .slice (some ⟨w.heap.size, 0, none⟩) 1 1, .int .i64 0] 76)).drew = wl at *
    go_loopw [21] (fun i wr => ∃ k : Nat, k ≤ 64 ∧ i = .int .i64 k ∧ wr.rowIs (w.heap.size + 1 + 1) 76 4 (levF (w.heap.size + 1) (w.heap.size) 0) ∧ wr.rowIs (w.heap.size) 45 1 (oneF (.int .u64 0)) ∧ wr.rowIs (w.heap.size + 1) 61 256 (layF (w.heap.size + 1 + 1) k) ∧ Below w.heap.size w wr) (fun i _ => 64 - (intOf i).toNat)
    case atStart => exact ⟨0, by omega, rfl, hl, hu, hs, hb⟩
    case round =>
      obtain ⟨k, hk, rfl, hl, hu, hs, hb⟩ := hrel
      by_cases hk64 : k < 64
      · have a1 : wr.cell? ⟨w.heap.size + 1 + 1, 1, none⟩ = some (.slice (some ⟨w.heap.size + 1, 0, none⟩) 64 64) := hl.cell (i := 1) (by omega)
        have s0 := hs.cell (i := k * 4) (by omega)
        have s1 := hs.cell (i := k * 4 + 1) (by omega)
        have s2 := hs.cell (i := k * 4 + 2) (by omega)
        have s3 := hs.cell (i := k * 4 + 3) (by omega)
        have f0 := hs.frozen (k * 4)
        have f1 := hs.frozen (k * 4 + 1)
        have f2 := hs.frozen (k * 4 + 2)
        have f3 := hs.frozen (k * 4 + 3)
        have HST := hide (lay_step hs)
        have HL := hide hl
        have HU := hide hu
        clear hs hl hu m1 m2
        generalize layF (w.heap.size + 1 + 1) k (k * 4) = v0 at s0
        generalize layF (w.heap.size + 1 + 1) k (k * 4 + 1) = v1 at s1
        generalize layF (w.heap.size + 1 + 1) k (k * 4 + 2) = v2 at s2
        generalize layF (w.heap.size + 1 + 1) k (k * 4 + 3) = v3 at s3
        go_wp2_with fail
        go_roundw
        case rel => exact ⟨k + 1, by omega, by go_num, four_other (unhide HL) (by omega), four_other (unhide HU) (by omega), unhide HST, four_below hb (by omega)⟩
        case measure => simp [intOf]; omega
      · have hk' : k = 64 := by omega
        subst hk'
        have HL := hide hl
        have HU := hide hu
        have HS := hide (lay_done hs)
        clear hl hu hs
        go_wp2_with fail
        go_ret
        exact ⟨_, _, _, rfl, unhide HL, unhide HU, unhide HS, by omega, by omega, by omega, hb⟩
end Go.Proofs.YbulkcyrqDoor
