/-
  THE WHEEL in memory, and its making (4).
-/
import Derived.Test.YbulkcyrqDoorRing
namespace Go.Proofs.YbulkcyrqDoor
open Go.RowKit

structure WhF (F : Nat → Value) (lk now p : Int) (A la : Nat) (hd : Option Nat) (cnt : Int) (st : Bool) (D : Nat) : Prop where
  n : F 1 = .int .i64 64
  lk : F 4 = .int .i32 lk
  now : F 6 = .int .i64 now
  p : F 8 = .int .i64 p
  lev : F 9 = .slice (some ⟨A, 0, none⟩) 1 1
  ah : F 10 = .pointer (some ⟨la, 0, none⟩)
  hd : F 11 = tp hd
  cnt : F 12 = .int .i64 cnt
  no : F 13 = .pointer none
  st : F 19 = .bool st
  drv : F 20 = .pointer (some ⟨D, 0, none⟩)

structure Whe (W A l0 la D : Nat) (lk now p : Int) (hd : Option Nat) (cnt : Int) (st : Bool) (w : World) : Prop where
  row : ∃ F, w.rowIs W 66 22 F ∧ WhF F lk now p A la hd cnt st D
  arr : w.rowIs A 59 1 (oneF (.pointer (some ⟨l0, 0, none⟩)))

def Drv (D : Nat) (q : Value) (h : Int) (w : World) : Prop := ∃ G, w.rowIs D 52 18 G ∧ G 7 = q ∧ G 8 = .int .i64 h

def nths (a : Array Value) : Nat → Value := fun i => a.getD i (.bool false)
theorem row_alloc (w : World) (a : Array Value) (t : TypeId) (n : Nat) (h : a.size = n) : (w.alloc (.cells a t)).rowIs w.heap.size t n (nths a) := by
  subst h
  exact World.rowIs_alloc w a t (nths a) (fun i hi => by simp [nths, Array.getD, hi])

theorem row_alloc1 (w : World) (o : Obj) (a : Array Value) (t : TypeId) (n : Nat) (h : a.size = n) : ((w.alloc o).alloc (.cells a t)).rowIs (w.heap.size + 1) t n (nths a) := by
  have := row_alloc (w.alloc o) a t n h
  rw [World.size_alloc] at this
  exact this

/-- Of other worlds: what lies in blocks that do not turn. -/
theorem Ring.of_only {l s u cb : Nat} {R : Nat → List Nat} {S : Nat → Prop} {w w' : World} (h : Ring l s u R cb w) (o : Only S w w') (h1 : ¬ S l) (h2 : ¬ S s) (h3 : ¬ S u) : Ring l s u R cb w' := by
  obtain ⟨⟨c, c1, c2⟩, ⟨m, m1, m2⟩, s1⟩ := h
  exact ⟨⟨c, o.row h1 c1, c2⟩, ⟨m, o.row h3 m1, m2⟩, o.row h2 s1⟩
theorem Whe.of_only {W A l0 la D : Nat} {lk now p : Int} {hd : Option Nat} {cnt : Int} {st : Bool} {S : Nat → Prop} {w w' : World} (h : Whe W A l0 la D lk now p hd cnt st w) (o : Only S w w') (h1 : ¬ S W) (h2 : ¬ S A) : Whe W A l0 la D lk now p hd cnt st w' := by
  obtain ⟨⟨F, f1, f2⟩, a⟩ := h
  exact ⟨⟨F, o.row h1 f1, f2⟩, o.row h2 a⟩
theorem Drv.of_only {D : Nat} {q : Value} {h : Int} {S : Nat → Prop} {w w' : World} (d : Drv D q h w) (o : Only S w w') (h1 : ¬ S D) : Drv D q h w' := by
  obtain ⟨G, g1, g2⟩ := d
  exact ⟨G, o.row h1 g1, g2⟩
theorem Tim.of_only {b : Nat} {due : Int} {nx : Option Nat} {tk : Int} {S : Nat → Prop} {w w' : World} (h : Tim b due nx tk w) (o : Only S w w') (h1 : ¬ S b) : Tim b due nx tk w' := h.of_block (o.block b h1)
theorem Ring.of_below {l s u cb : Nat} {R : Nat → List Nat} {B : Nat} {w w' : World} (h : Ring l s u R cb w) (o : Below B w w') (hl : l < B) (hs : s < B) (hu : u < B) : Ring l s u R cb w' := by
  obtain ⟨⟨c, c1, c2⟩, ⟨m, m1, m2⟩, s1⟩ := h
  exact ⟨⟨c, c1.of_block (o.block l hl), c2⟩, ⟨m, m1.of_block (o.block u hu), m2⟩, s1.of_block (o.block s hs)⟩
theorem Ring.fresh {l s u : Nat} {w : World} (hl : w.rowIs l 76 4 (levF s u 0)) (hu : w.rowIs u 45 1 (oneF (.int .u64 0))) (hs : w.rowIs s 61 256 (slotsF l (fun _ => .pointer none) (fun _ => 0))) : Ring l s u (fun _ => []) 0 w :=
  ⟨⟨0, hl, by omega, by simp⟩, ⟨0, hu, by omega, by simp⟩, hs⟩
theorem Ring.lt {l s u cb : Nat} {R : Nat → List Nat} {w : World} (h : Ring l s u R cb w) : l < w.heap.size ∧ s < w.heap.size ∧ u < w.heap.size := by
  obtain ⟨⟨c, c1, c2⟩, ⟨m, m1, m2⟩, s1⟩ := h
  exact ⟨c1.lt, s1.lt, m1.lt⟩
theorem Ring.alloc {l s u cb : Nat} {R : Nat → List Nat} {w : World} (h : Ring l s u R cb w) (o : Obj) : Ring l s u R cb (w.alloc o) := by
  obtain ⟨⟨c, c1, c2⟩, ⟨m, m1, m2⟩, s1⟩ := h
  exact ⟨⟨c, c1.alloc o, c2⟩, ⟨m, m1.alloc o, m2⟩, s1.alloc o⟩

/-- The blocks of a wheel. -/
structure Blocks (B W A D l0 s0 u0 l1 s1 u1 : Nat) : Prop where
  l : l0 ≠ l1
  s : s0 ≠ s1
  u : u0 ≠ u1
  old : B ≤ W ∧ B ≤ A ∧ B ≤ D ∧ B ≤ l0 ∧ B ≤ s0 ∧ B ≤ u0 ∧ B ≤ l1 ∧ B ≤ s1 ∧ B ≤ u1

set_option maxHeartbeats 1000000 in
set_option maxRecDepth 100000 in
theorem ctor_any (now : Int) (st : Bool) (w : World) :
    Calls Ybad.prog 4 #[.int .i64 now, .bool st] w fun e w' => ∃ W A D l0 s0 u0 l1 s1 u1, e = .returned (.pointer (some ⟨W, 0, none⟩)) ∧ Blocks w.heap.size W A D l0 s0 u0 l1 s1 u1 ∧
      Whe W A l0 l1 D 0 now 0 none 0 st w' ∧ Drv D (.slice none 0 0) 0 w' ∧ Ring l0 s0 u0 (fun _ => []) 0 w' ∧ Ring l1 s1 u1 (fun _ => []) 0 w' ∧ Below w.heap.size w w' := by
  have hn := newLevel_any
  have HN := hide hn
  clear hn
  go_enter Ybad.func4, Ybad.ntmps4
  go_wp2_with (first | (go_at_call 10; refine (unhide HN _).mono ?_; rintro e w1 ⟨l1, s1, u1, rfl, hl1, hu1, hs1, c1, c2, c3, bel1⟩))
  go_ret
  rename_i w0 l0 s0 u0 hl0 hu0 hs0 b1 b2 b3 bel0
  have r0 := Ring.fresh hl0 hu0 hs0
  have r1 := Ring.fresh hl1 hu1 hs1
  have t0 := r0.lt
  have hw0 : w.heap.size ≤ w0.heap.size := bel0.size
  simp only [World.size_alloc] at c1 c2 c3 bel1
  have hw1 := bel1.size
  simp only [World.size_alloc] at hw1
  have r0' := (r0.alloc (.cells #[.pointer (some ⟨l0, 0, none⟩)] 59)).of_below bel1 (by omega) (by omega) (by omega)
  have hA := ((row_alloc w0 #[.pointer (some ⟨l0, 0, none⟩)] 59 1 rfl).congr (g := oneF (.pointer (some ⟨l0, 0, none⟩))) (fun i hi => by
    match i, hi with
    | 0, _ => rfl)).of_block (bel1.block w0.heap.size (by omega))
  refine ⟨w1.heap.size + 1, w0.heap.size, w1.heap.size, l0, s0, u0, l1, s1, u1, rfl, ⟨by omega, by omega, by omega, by omega⟩, ⟨⟨_, row_alloc1 w1 _ _ 66 22 rfl, ⟨rfl, rfl, rfl, rfl, rfl, rfl, rfl, rfl, rfl, rfl, rfl⟩⟩, (hA.alloc _).alloc _⟩, ⟨_, (row_alloc w1 _ 52 18 rfl).alloc _, rfl, rfl⟩, (r0'.alloc _).alloc _, (r1.alloc _).alloc _, ?_⟩
  · have ba : Below w.heap.size w (w0.alloc (.cells #[.pointer (some ⟨l0, 0, none⟩)] 59)) := bel0.alloc hw0 _
    have bb : Below w.heap.size w w1 := ba.trans (bel1.mono (by omega))
    exact (bb.alloc (by omega) _).alloc (by simp; omega) _
end Go.Proofs.YbulkcyrqDoor
