/-
  FOR subproof (15) AND ConsistencyProof (9): what a call leaves, and the steps outside the walk.
-/
import Derived.Test.YbulkcyrcClosure
namespace Go.Proofs.Ybulkcyrc
open Go.RowKit
open Plain (rng spl)

def ecells (L : List (Nat × Nat)) : List Value := L.flatMap fun r => encL r.1 r.2
theorem ecells_snoc (L : List (Nat × Nat)) (r : Nat × Nat) : ecells (L ++ [r]) = ecells L ++ encL r.1 r.2 := by simp [ecells]
theorem rcells_one (r : Nat × Nat) : rcells [r] = [.int .u64 r.1, .int .u64 r.2] := by simp [rcells]

theorem info25 : (Yba.prog.info? 25).map (fun i => (i.zero, i.size, i.bytes)) = some (some (.agg (Array.replicate 32 (.int .u8 0))), 32, 32) := by kernel_rfl

/-! ### 'append(x, h)' lays the hash h into a new block, cell by cell -/
theorem fold_set (xs : List Value) : ∀ (k : Nat) (a : Array Value), a.size = k + xs.length → (List.foldl (fun (cs : Array Value) (x : Value × Nat) => cs.setIfInBounds x.2 x.1) a (xs.zipIdx k)).toList = a.toList.take k ++ xs := by
  induction xs with
  | nil => intro k a h; simp at h ⊢; rw [List.take_of_length_le (by simp; omega)]
  | cons x xs ih =>
    intro k a h
    simp only [List.length_cons] at h
    rw [List.zipIdx_cons, List.foldl_cons, ih (k + 1) _ (by simp; omega)]
    simp only [Array.toList_setIfInBounds]
    rw [List.take_add_one, List.take_set_of_le (Nat.le_refl _)]
    have hk : k < a.size := by omega
    simp [hk]
theorem fold_enc (lo hi : Nat) : List.foldl (fun (cs : Array Value) (x : Value × Nat) => cs.setIfInBounds x.2 x.1) #[.int .u8 0, .int .u8 0, .int .u8 0, .int .u8 0, .int .u8 0, .int .u8 0, .int .u8 0, .int .u8 0, .int .u8 0, .int .u8 0, .int .u8 0, .int .u8 0, .int .u8 0, .int .u8 0, .int .u8 0, .int .u8 0, .int .u8 0, .int .u8 0, .int .u8 0, .int .u8 0, .int .u8 0, .int .u8 0, .int .u8 0, .int .u8 0, .int .u8 0, .int .u8 0, .int .u8 0, .int .u8 0, .int .u8 0, .int .u8 0, .int .u8 0, .int .u8 0] (encL lo hi).zipIdx = (encL lo hi).toArray := by
  have := fold_set (encL lo hi) 0 #[.int .u8 0, .int .u8 0, .int .u8 0, .int .u8 0, .int .u8 0, .int .u8 0, .int .u8 0, .int .u8 0, .int .u8 0, .int .u8 0, .int .u8 0, .int .u8 0, .int .u8 0, .int .u8 0, .int .u8 0, .int .u8 0, .int .u8 0, .int .u8 0, .int .u8 0, .int .u8 0, .int .u8 0, .int .u8 0, .int .u8 0, .int .u8 0, .int .u8 0, .int .u8 0, .int .u8 0, .int .u8 0, .int .u8 0, .int .u8 0, .int .u8 0, .int .u8 0] (by simp [encL_len])
  apply Array.ext'
  rw [this]
  simp

/-- What the closure leaves. -/
structure Logged (B b n : Nat) (xs : List Value) (L : List (Nat × Nat)) (w w' : World) : Prop where
  log : ∃ v', w'.heap[b]? = some (.cells #[v'] 23 (0, 0)) ∧ w'.ownsRow B 27 2 v' (n + L.length) (xs ++ rcells L)
  fr : Fr b w w'
  below : Below B w w'

/-- What subproof leaves. -/
structure Subbed (B b n : Nat) (xs : List Value) (L : List (Nat × Nat)) (r : Value) (w w' : World) : Prop extends Logged B b n xs L w w' where
  res : w'.ownsRow w.heap.size 25 32 r L.length (ecells L)

theorem Logged.refl {B b n : Nat} {v : Value} {xs : List Value} {w : World} (hb : w.heap[b]? = some (.cells #[v] 23 (0, 0))) (hown : w.ownsRow B 27 2 v n xs) : Logged B b n xs [] w w :=
  ⟨⟨v, hb, by simpa [rcells] using hown⟩, Fr.refl _ _, Below.refl _ _⟩
theorem Logged.trans {B b n : Nat} {xs : List Value} {L M : List (Nat × Nat)} {x y z : World} (h : Logged B b n xs L x y) (k : Logged B b (n + L.length) (xs ++ rcells L) M y z) : Logged B b n xs (L ++ M) x z := by
  obtain ⟨v', h1, h2⟩ := k.log
  exact ⟨⟨v', h1, by rw [rcells_append, List.length_append, ← Nat.add_assoc, ← List.append_assoc]; exact h2⟩, h.fr.trans k.fr, h.below.trans k.below⟩

theorem clo11Z (B b : Nat) (lo hi : Int) (v : Value) (n : Nat) (xs : List Value) (w : World) (hb : w.heap[b]? = some (.cells #[v] 23 (0, 0))) (hown : w.ownsRow B 27 2 v n xs) (hB : B ≤ b) (hn : n ≤ 1000)
    (h0 : 0 ≤ lo) (h1 : lo ≤ 18446744073709551615) (h2 : 0 ≤ hi) (h3 : hi ≤ 18446744073709551615) :
    Calls Yba.prog 11 #[.int .u64 lo, .int .u64 hi, .pointer (some ⟨b, 0, none⟩)] w fun e w' => e = .returned (.agg (encL lo.toNat hi.toNat).toArray) ∧ Logged B b n xs [(lo.toNat, hi.toNat)] w w' := by
  obtain ⟨a, rfl⟩ := Int.eq_ofNat_of_zero_le h0
  obtain ⟨c, rfl⟩ := Int.eq_ofNat_of_zero_le h2
  refine (clo11 B b a c v n xs w hb hown hB hn (by omega) (by omega)).mono ?_
  rintro e w' ⟨rfl, v', q1, q2, q3, q4⟩
  exact ⟨rfl, ⟨v', q1, by rw [rcells_one]; exact q2⟩, q3, q4⟩
theorem clo7Z (B b : Nat) (lo hi : Int) (v : Value) (n : Nat) (xs : List Value) (w : World) (hb : w.heap[b]? = some (.cells #[v] 23 (0, 0))) (hown : w.ownsRow B 27 2 v n xs) (hB : B ≤ b) (hn : n ≤ 1000)
    (h0 : 0 ≤ lo) (h1 : lo ≤ 18446744073709551615) (h2 : 0 ≤ hi) (h3 : hi ≤ 18446744073709551615) :
    Calls Yba.prog 7 #[.int .u64 lo, .int .u64 hi, .pointer (some ⟨b, 0, none⟩)] w fun e w' => e = .returned (.agg (encL lo.toNat hi.toNat).toArray) ∧ Logged B b n xs [(lo.toNat, hi.toNat)] w w' := by
  obtain ⟨a, rfl⟩ := Int.eq_ofNat_of_zero_le h0
  obtain ⟨c, rfl⟩ := Int.eq_ofNat_of_zero_le h2
  refine (clo7 B b a c v n xs w hb hown hB hn (by omega) (by omega)).mono ?_
  rintro e w' ⟨rfl, v', q1, q2, q3, q4⟩
  exact ⟨rfl, ⟨v', q1, by rw [rcells_one]; exact q2⟩, q3, q4⟩

theorem split_k (hi lo k : Nat) (w : World) (Hk : Hid (spl (hi - lo) = k)) (h1 : lo + 2 ≤ hi) (h2 : hi ≤ 18446744073709551615) :
    Calls Yba.prog 18 #[.int .u64 ((hi : Int) - (lo : Int))] w fun e w' => e = .returned (.int .u64 (k : Int)) ∧ w = w' := by
  refine (split_any ((hi : Int) - (lo : Int)) w (by omega) (by omega)).mono ?_
  rintro e w' ⟨rfl, rfl⟩
  refine ⟨?_, rfl⟩
  rw [show ((hi : Int) - (lo : Int)).toNat = hi - lo from by omega, unhide Hk]

/-- The last range: one slice of one hash. -/
theorem sub_last {B b n : Nat} {xs : List Value} {lo hi : Nat} {w w1 : World} (h : Logged B b n xs [(lo, hi)] w w1) (hBw : B ≤ w1.heap.size) :
    Subbed B b n xs [(lo, hi)] (.slice (some ⟨w1.heap.size, 0, none⟩) 1 1) w (w1.alloc (.cells (encL lo hi).toArray 25)) := by
  obtain ⟨v', q1, q2⟩ := h.log
  refine ⟨⟨⟨v', ?_, q2.alloc _⟩, h.fr.alloc _, h.below.alloc hBw _⟩, ?_, ?_⟩
  · rw [Below.heap_alloc _ _ _ (lt_of_block q1)]; exact q1
  · simp [ecells, encL_len]
  · refine .inr ⟨w1.heap.size, 1, (encL lo hi).toArray, rfl, h.fr.size, heap_alloc_new _ _, Nat.le_refl _, by unfold maxLen; omega, by simp [encL_len], ?_⟩
    have : ecells [(lo, hi)] = encL lo hi := by simp [ecells]
    rw [this]
    simp [encL_len, List.take_of_length_le]

/-- Behind the append. -/
theorem sub_step {B b n g cap : Nat} {xs : List Value} {L : List (Nat × Nat)} {r : Value} {lo hi : Nat} {w w1 w2 w3 : World} {o : Obj} (h : Subbed B b n xs L r w w1)
    (k : Logged B b (n + L.length) (xs ++ rcells L) [(lo, hi)] w1 w2) (hBw : B ≤ w.heap.size)
    (hown : w3.ownsRow w.heap.size 25 32 (.slice (some ⟨g, 0, none⟩) (L.length + 1) cap) (L.length + 1) (ecells L ++ encL lo hi))
    (hgrow : (w2.alloc o).grownBy w3 r.ownBlock) :
    Subbed B b n xs (L ++ [(lo, hi)]) (.slice (some ⟨g, 0, none⟩) (L.length + 1) cap) w w3 := by
  have hk := h.toLogged.trans k
  obtain ⟨v1, q1, _⟩ := h.log
  have hr2 := (k.fr.owns h.res q1).alloc o
  obtain ⟨v2, p1, p2⟩ := hk.log
  have hlt := lt_of_block p1
  have hBw2 := hk.fr.size
  have p1' : (w2.alloc o).heap[b]? = some (.cells #[v2] 23 (0, 0)) := by rw [Below.heap_alloc _ _ _ hlt]; exact p1
  refine ⟨⟨⟨v2, box_kept hgrow p1' (owns_ne hr2 p1' (by decide)), ?_⟩, ?_, ?_⟩, ?_⟩
  · refine owns_of_block (p2.alloc o) fun j hj => ?_
    have hl := ((p2.alloc o).lt j hj).2
    refine hgrow.block j hl (fun e => ?_)
    rcases (p2.alloc o).2 with ⟨e2, _⟩ | ⟨g2, cap2, cur2, e2, _, hh2, _⟩
    · subst e2; simp [Value.ownBlock] at hj
    · subst e2
      simp [Value.ownBlock] at hj
      subst hj
      exact owns_ne hr2 hh2 (by decide) e.symm
  · exact Fr.late (hk.fr.alloc o) hgrow (fun j hj => (hr2.lt j hj).1)
  · exact Below.grown (hk.below.alloc (by omega) o) hgrow (by simp; omega) (fun j hj => by have := (hr2.lt j hj).1; omega)
  · rw [ecells_snoc, List.length_append]
    exact hown

end Go.Proofs.Ybulkcyrc
