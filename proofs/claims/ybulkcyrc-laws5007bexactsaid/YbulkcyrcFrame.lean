/-
  WHAT A CALL OF THE CLOSURE AND OF subproof LEAVES ALONE: all blocks but the box of 'log' (b) and rows of ranges (element type 27).
-/
import Derived.WalkKit
import Derived.Deep.AppendLies
import Derived.Test.YbulkcyrcPlain
namespace Go.Proofs.Ybulkcyrc
open Go.RowKit

theorem hide {p : Prop} (h : p) : Hid p := h
theorem unhide {p : Prop} (h : Hid p) : p := h

structure Fr (b : Nat) (w w' : World) : Prop where
  os : w'.os = w.os
  tape : w'.tape = w.tape
  output : w'.output = w.output
  size : w.heap.size ≤ w'.heap.size
  block : ∀ k, k < w.heap.size → k ≠ b → (∀ cs, w.heap[k]? ≠ some (.cells cs 27 (0, 0))) → w'.heap[k]? = w.heap[k]?

theorem Fr.refl (b : Nat) (w : World) : Fr b w w := ⟨rfl, rfl, rfl, Nat.le_refl _, fun _ _ _ _ => rfl⟩
theorem Fr.trans {b : Nat} {x y z : World} (h : Fr b x y) (k : Fr b y z) : Fr b x z :=
  ⟨k.os.trans h.os, k.tape.trans h.tape, k.output.trans h.output, Nat.le_trans h.size k.size, fun i hi hb hn => by
    have e := h.block i hi hb hn
    exact (k.block i (Nat.lt_of_lt_of_le hi h.size) hb (by rw [e]; exact hn)).trans e⟩
theorem Fr.ofBelow {b : Nat} {w w' : World} (h : Below w.heap.size w w') : Fr b w w' :=
  ⟨h.os, h.tape, h.output, h.size, fun k hk _ _ => h.block k hk⟩
theorem Fr.drew {b : Nat} {x w : World} (h : Fr b x w) : Fr b x w.drew := ⟨h.os, h.tape, h.output, h.size, h.block⟩
theorem Fr.alloc {b : Nat} {x w : World} (h : Fr b x w) (o : Obj) : Fr b x (w.alloc o) :=
  h.trans (Fr.ofBelow ((Below.refl _ _).alloc (Nat.le_refl _) o))
/-- A store into the box. -/
theorem Fr.box {b : Nat} {x w : World} (h : Fr b x w) (u : Value) : Fr b x (w.setCell ⟨b, 0, none⟩ u) :=
  h.trans ⟨rfl, rfl, rfl, by simp [World.setCell], fun k _ hb _ => Below.heap_setCell _ _ _ _ hb⟩
/-- Behind an append to a row of ranges. -/
theorem Fr.grown {b : Nat} {x w w' : World} (h : Fr b x w) {B : Nat} {v : Value} {n : Nat} {xs : List Value} (hg : w.grownBy w' v.ownBlock) (hown : w.ownsRow B 27 2 v n xs) : Fr b x w' :=
  h.trans ⟨hg.os, hg.tape, hg.output, hg.size, fun k hk _ hn => hg.block k hk (fun e => by
    rcases hown.2 with ⟨rfl, _⟩ | ⟨g, cap, cur, rfl, _, hh, _⟩
    · simp [Value.ownBlock] at e
    · simp [Value.ownBlock] at e
      subst e
      exact hn cur hh)⟩
/-- Behind an append to a row that was made later than x. -/
theorem Fr.late {b : Nat} {x w w' : World} (h : Fr b x w) {v : Value} (hg : w.grownBy w' v.ownBlock) (hv : ∀ k, v.ownBlock = some k → x.heap.size ≤ k) : Fr b x w' :=
  ⟨hg.os.trans h.os, hg.tape.trans h.tape, hg.output.trans h.output, Nat.le_trans h.size hg.size, fun k hk hb hn =>
    (hg.block k (Nat.lt_of_lt_of_le hk h.size) (fun e => by have := hv k e.symm; omega)).trans (h.block k hk hb hn)⟩

/-- The box over a frame that leaves it. -/
theorem box_kept {w w' : World} {b : Nat} {o : Obj} {row : Option Nat} (hg : w.grownBy w' row) (h : w.heap[b]? = some o) (hr : row ≠ some b) : w'.heap[b]? = some o :=
  (hg.block b (lt_of_block h) (fun e => hr e.symm)).trans h
/-- A row of hashes stays while Fr holds. -/
theorem Fr.owns {b : Nat} {w w' : World} (h : Fr b w w') {B : Nat} {v bx : Value} {n : Nat} {xs : List Value} (hown : w.ownsRow B 25 32 v n xs) (hb : w.heap[b]? = some (.cells #[bx] 23 (0, 0))) : w'.ownsRow B 25 32 v n xs := by
  refine ⟨hown.1, ?_⟩
  rcases hown.2 with h2 | ⟨g, cap, cur, rfl, hg, hh, r⟩
  · exact .inl h2
  · refine .inr ⟨g, cap, cur, rfl, hg, ?_, r⟩
    rw [h.block g (lt_of_block hh) (fun e => by subst e; rw [hb] at hh; simp at hh) (fun cs e => by rw [hh] at e; simp at e)]
    exact hh
/-- An owned row's block is neither of another element type's. -/
theorem owns_ne {w : World} {B : Nat} {e e' : TypeId} {size : Nat} {v : Value} {n : Nat} {xs : List Value} {b : Nat} {cs : Array Value} (hown : w.ownsRow B e size v n xs) (hb : w.heap[b]? = some (.cells cs e' (0, 0))) (hne : e ≠ e') : v.ownBlock ≠ some b := by
  rcases hown.2 with ⟨rfl, _⟩ | ⟨g, cap, cur, rfl, _, hh, _⟩
  · simp [Value.ownBlock]
  · simp only [Value.ownBlock, ne_eq, Option.some.injEq]
    rintro rfl
    rw [hb] at hh
    simp at hh
    exact hne hh.2.symm
/-- What is owned from B on is owned from any smaller number on. -/
theorem owns_base {w : World} {B B' : Nat} {e : TypeId} {size : Nat} {v : Value} {n : Nat} {xs : List Value} (hown : w.ownsRow B e size v n xs) (h : B' ≤ B) : w.ownsRow B' e size v n xs := by
  refine ⟨hown.1, ?_⟩
  rcases hown.2 with h2 | ⟨g, cap, cur, hv, hg, r⟩
  · exact .inl h2
  · exact .inr ⟨g, cap, cur, hv, by omega, r⟩

/-! ### The cells -/
def rcells (L : List (Nat × Nat)) : List Value := L.flatMap fun r => [.int .u64 r.1, .int .u64 r.2]
theorem rcells_snoc (L : List (Nat × Nat)) (r : Nat × Nat) : rcells (L ++ [r]) = rcells L ++ [.int .u64 r.1, .int .u64 r.2] := by simp [rcells]
theorem rcells_append (L M : List (Nat × Nat)) : rcells (L ++ M) = rcells L ++ rcells M := by simp [rcells]
theorem rcells_len (L : List (Nat × Nat)) : (rcells L).length = L.length * 2 := by
  induction L with
  | nil => rfl
  | cons r L ih => simp only [rcells, List.flatMap_cons, List.length_append, List.length_cons, List.length_nil] at *; omega
theorem rcells_at (L : List (Nat × Nat)) : ∀ (i : Nat) (h : i < L.length), (rcells L)[i * 2]? = some (.int .u64 (L[i]).1) ∧ (rcells L)[i * 2 + 1]? = some (.int .u64 (L[i]).2) := by
  induction L with
  | nil => intro i h; simp at h
  | cons r L ih =>
    intro i h
    cases i with
    | zero => simp [rcells]
    | succ i =>
      have := ih i (by simpa using h)
      have e1 : (i + 1) * 2 = i * 2 + 1 + 1 := by omega
      simp only [e1, rcells, List.flatMap_cons, List.cons_append, List.nil_append, List.getElem?_cons_succ, List.getElem_cons_succ]
      exact this

end Go.Proofs.Ybulkcyrc
