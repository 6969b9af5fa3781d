/-
  THE FRAME 'Only', and the levels' small methods: mark (11), unmark (30).
-/
import Derived.Test.YbulkcyrqDoorProg
import Derived.WalkKit
import Derived.WalkSpells
import Derived.Deep.OwnRows
import Derived.Laws.BitsAllLaws
import Derived.Laws.Bits64b
namespace Go.Proofs.YbulkcyrqDoor
open Go.RowKit

theorem hide {p : Prop} (h : p) : Hid p := h
theorem unhide {p : Prop} (h : Hid p) : p := h

/-- No block turns but those of S; none is laid. -/
structure Only (S : Nat → Prop) (w w' : World) : Prop where
  os : w'.os = w.os
  tape : w'.tape = w.tape
  output : w'.output = w.output
  size : w'.heap.size = w.heap.size
  block : ∀ k, ¬ S k → w'.heap[k]? = w.heap[k]?

theorem Only.refl (S : Nat → Prop) (w : World) : Only S w w := ⟨rfl, rfl, rfl, rfl, fun _ _ => rfl⟩
theorem Only.trans {S : Nat → Prop} {x y z : World} (h : Only S x y) (k : Only S y z) : Only S x z :=
  ⟨k.os.trans h.os, k.tape.trans h.tape, k.output.trans h.output, k.size.trans h.size, fun i hi => (k.block i hi).trans (h.block i hi)⟩
theorem Only.mono {S T : Nat → Prop} {x y : World} (h : Only S x y) (hs : ∀ k, S k → T k) : Only T x y :=
  ⟨h.os, h.tape, h.output, h.size, fun i hi => h.block i (fun e => hi (hs i e))⟩
theorem Only.drew {S : Nat → Prop} {x y : World} (h : Only S x y) : Only S x y.drew := ⟨h.os, h.tape, h.output, h.size, h.block⟩
theorem Only.setCell {S : Nat → Prop} {x y : World} (h : Only S x y) {a : Addr} (ha : S a.block) (v : Value) : Only S x (y.setCell a v) :=
  h.trans ⟨rfl, rfl, rfl, by simp [World.setCell], fun i hi => Below.heap_setCell _ _ _ _ (fun e => hi (e ▸ ha))⟩
theorem Only.row {S : Nat → Prop} {x y : World} (h : Only S x y) {b : Nat} {t : TypeId} {n : Nat} {f : Nat → Value} (hb : ¬ S b) (r : x.rowIs b t n f) : y.rowIs b t n f := r.of_block (h.block b hb)
theorem Only.below {S : Nat → Prop} {x y : World} (h : Only S x y) {B : Nat} (hB : ∀ k, S k → B ≤ k) : Below B x y :=
  ⟨h.os, h.tape, h.output, by rw [h.size]; exact Nat.le_refl _, fun k hk => h.block k (fun e => by have := hB k e; omega)⟩

def levF (s u : Nat) (c : Int) : Nat → Value
  | 0 => .int .i64 1
  | 1 => .slice (some ⟨s, 0, none⟩) 64 64
  | 2 => .slice (some ⟨u, 0, none⟩) 1 1
  | _ => .int .i64 c
def oneF (v : Value) : Nat → Value := fun _ => v

theorem lev_set {w : World} {l s u : Nat} {c c' : Int} (h : w.rowIs l 76 4 (levF s u c)) : (w.setCell ⟨l, 3, none⟩ (.int .i64 c')).rowIs l 76 4 (levF s u c') :=
  (h.set 3 _).congr fun i hi => by
    match i, hi with
    | 0, _ => rfl
    | 1, _ => rfl
    | 2, _ => rfl
    | 3, _ => rfl
theorem one_set {w : World} {u : Nat} {t : TypeId} {v v' : Value} (h : w.rowIs u t 1 (oneF v)) : (w.setCell ⟨u, 0, none⟩ v').rowIs u t 1 (oneF v') :=
  (h.set 0 _).congr fun i hi => by
    match i, hi with
    | 0, _ => rfl

theorem wrap_two_pow (l : Nat) (h : l < 64) : IntKind.u64.wrap (2 ^ l) = ((2 ^ l : Nat) : Int) := by
  have h1 : (2 ^ l : Nat) < 2 ^ 64 := Nat.pow_lt_pow_right (by omega) h
  have h2 : ((2 : Int) ^ l) = ((2 ^ l : Nat) : Int) := by simp
  rw [h2]
  generalize 2 ^ l = k at *
  simp [IntKind.wrap, IntKind.bits, IntKind.signed]
  omega

set_option maxHeartbeats 1000000 in
set_option maxRecDepth 100000 in
theorem mark_any (l s u i : Nat) (c : Int) (m : Nat) (w : World) (hi : i < 64) (hm : m < 18446744073709551616) (c0 : 0 ≤ c) (c1 : c ≤ 1000000) (hlu : l ≠ u)
    (hl : w.rowIs l 76 4 (levF s u c)) (hu : w.rowIs u 45 1 (oneF (.int .u64 m))) :
    Calls Ybad.prog 11 #[.pointer (some ⟨l, 0, none⟩), .int .i64 i] w fun e w' => e = .returned (.tuple #[]) ∧
      w'.rowIs l 76 4 (levF s u (c + 1)) ∧ w'.rowIs u 45 1 (oneF (.int .u64 ((m ||| 2 ^ i : Nat) : Int))) ∧ Only (fun k => k = l ∨ k = u) w w' := by
  have a1 : w.cell? ⟨l, 2, none⟩ = some (.slice (some ⟨u, 0, none⟩) 1 1) := hl.cell (i := 2) (by omega)
  have a2 : w.cell? ⟨l, 3, none⟩ = some (.int .i64 c) := hl.cell (i := 3) (by omega)
  have a3 : w.cell? ⟨u, 0, none⟩ = some (.int .u64 m) := hu.cell (i := 0) (by omega)
  have f1 := hl.frozen 3
  have f2 := hu.frozen 0
  have q1 : ((i : Int) / 64) = 0 := by omega
  have q2 : ((i : Int) % 64) = i := by omega
  have HL := hide hl
  have HU := hide hu
  clear hl hu
  have hor : bits .or .u64 (m : Int) (IntKind.u64.wrap (2 ^ i)) = ((m ||| 2 ^ i : Nat) : Int) := by
    rw [wrap_two_pow i hi]
    exact u64_or_nat m (2 ^ i) hm (Nat.pow_lt_pow_right (by omega) hi)
  generalize m ||| 2 ^ i = m' at *
  go_enter Ybad.func11, Ybad.ntmps11
  go_wp2
  go_region
  go_wp2
  go_end0
  refine ⟨rfl, ?_, ?_, ?_⟩
  · exact lev_set (((unhide HL).setOther (a := ⟨u, 0, none⟩) hlu _).drew)
  · exact (one_set (unhide HU)).setOther (a := ⟨l, 3, none⟩) (Ne.symm hlu) _
  · exact (((Only.refl _ w).setCell (a := ⟨u, 0, none⟩) (.inr rfl) _).drew).setCell (a := ⟨l, 3, none⟩) (.inl rfl) _

set_option maxHeartbeats 1000000 in
set_option maxRecDepth 100000 in
theorem unmark_any (l s u i : Nat) (c : Int) (m m' : Nat) (w : World) (hi : i < 64) (c0 : 1 ≤ c) (c1 : c ≤ 1000000) (hlu : l ≠ u)
    (han : bits .andNot .u64 (m : Int) (IntKind.u64.wrap (2 ^ i)) = (m' : Int))
    (hl : w.rowIs l 76 4 (levF s u c)) (hu : w.rowIs u 45 1 (oneF (.int .u64 m))) :
    Calls Ybad.prog 30 #[.pointer (some ⟨l, 0, none⟩), .int .i64 i] w fun e w' => e = .returned (.tuple #[]) ∧
      w'.rowIs l 76 4 (levF s u (c - 1)) ∧ w'.rowIs u 45 1 (oneF (.int .u64 (m' : Int))) ∧ Only (fun k => k = l ∨ k = u) w w' := by
  have a1 : w.cell? ⟨l, 2, none⟩ = some (.slice (some ⟨u, 0, none⟩) 1 1) := hl.cell (i := 2) (by omega)
  have a2 : w.cell? ⟨l, 3, none⟩ = some (.int .i64 c) := hl.cell (i := 3) (by omega)
  have a3 : w.cell? ⟨u, 0, none⟩ = some (.int .u64 m) := hu.cell (i := 0) (by omega)
  have f1 := hl.frozen 3
  have f2 := hu.frozen 0
  have q1 : ((i : Int) / 64) = 0 := by omega
  have q2 : ((i : Int) % 64) = i := by omega
  have HL := hide hl
  have HU := hide hu
  clear hl hu
  go_enter Ybad.func30, Ybad.ntmps30
  go_wp2
  go_region
  go_wp2
  go_end0
  refine ⟨rfl, ?_, ?_, ?_⟩
  · exact lev_set (((unhide HL).setOther (a := ⟨u, 0, none⟩) hlu _).drew)
  · exact (one_set (unhide HU)).setOther (a := ⟨l, 3, none⟩) (Ne.symm hlu) _
  · exact (((Only.refl _ w).setCell (a := ⟨u, 0, none⟩) (.inr rfl) _).drew).setCell (a := ⟨l, 3, none⟩) (.inl rfl) _
end Go.Proofs.YbulkcyrqDoor
