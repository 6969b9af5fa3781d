/-
  '!=' ON TWO HASHES THAT ARE ONE; what the loops read.
-/
import Derived.Test.YbulkcyrcSub
import Derived.ChangeKeysEq
namespace Go.Proofs.Ybulkcyrc
open Go.RowKit

theorem info5 : ∃ j, Yba.prog.info? 5 = some j := Option.isSome_iff_exists.1 (by kernel_rfl)
theorem cells5 : Yba.prog.cellsOf 5 = 1 := by kernel_rfl

theorem eqItems_same (cs : List Value) (hc : ∀ u ∈ cs, ∃ z, u = Value.int .u8 z) (d : Nat) (w : World) : ∀ is : List Nat, (∀ i ∈ is, i < cs.length) →
    (Op.eqItems (d + 1) 5 1 cs.toArray cs.toArray is).run Yba.prog w = .ok true w
  | [], _ => by simp [Op.eqItems]
  | i :: is, h => by
    have hi := h i (by simp)
    obtain ⟨z, hz⟩ := hc cs[i] (List.getElem_mem hi)
    have ih := eqItems_same cs hc d w is (fun j hj => h j (by simp [hj]))
    simp [Op.eqItems, part, isAgg, hi, hz]
    rw [run_equalIn_int w d 5 .u8 .u8 z z Yba.underlying5]
    simp [ih]

theorem be_u8 (v : Nat) : ∀ u ∈ Lib.byteCells (Lib.beBytes 8 v), ∃ z, u = Value.int .u8 z := by
  intro u hu
  simp only [Lib.byteCells, List.mem_map] at hu
  obtain ⟨x, _, rfl⟩ := hu
  exact ⟨_, rfl⟩
theorem encL_u8 (lo hi : Nat) : ∀ u ∈ encL lo hi, ∃ z, u = Value.int .u8 z := by
  intro u hu
  rcases List.mem_append.1 hu with h | h
  · exact be_u8 _ u h
  rcases List.mem_append.1 h with h | h
  · exact be_u8 _ u h
  · exact ⟨0, List.eq_of_mem_replicate h⟩

theorem equal25 (lo hi : Nat) (w : World) : (Op.equalIn 10000 25 (.agg (encL lo hi).toArray) (.agg (encL lo hi).toArray)).run Yba.prog w = .ok true w := by
  obtain ⟨j, hj⟩ := info5
  rw [run_equalIn_array w 9999 _ _ Yba.underlying25 hj, cells5]
  exact eqItems_same _ (encL_u8 lo hi) 9998 w _ (fun i hi' => by rw [encL_len]; simpa using hi')

/-- The hash at place i of a row of hashes. -/
theorem ecells_at (L : List (Nat × Nat)) : ∀ (i : Nat) (h : i < L.length) (j : Nat), j < 32 → (ecells L)[i * 32 + j]? = (encL (L[i]).1 (L[i]).2)[j]? := by
  induction L with
  | nil => intro i h; simp at h
  | cons r L ih =>
    intro i h j hj
    have e : ecells (r :: L) = encL r.1 r.2 ++ ecells L := by simp [ecells]
    rw [e]
    cases i with
    | zero => rw [List.getElem?_append_left (by rw [encL_len]; omega)]; simp
    | succ i =>
      rw [List.getElem?_append_right (by rw [encL_len]; omega), encL_len, show (i + 1) * 32 + j - 32 = i * 32 + j from by omega]
      exact ih i (by simpa using h) j hj
theorem hash_at {w : World} {g : Nat} {cur : Array Value} {t : TypeId} {fr : Nat × Nat} {L : List (Nat × Nat)} (hg : w.heap[g]? = some (.cells cur t fr)) (hc : cur.toList.take (L.length * 32) = ecells L) (i : Nat) (hi : i < L.length) :
    w.rangeAt g (i * 32) (encL (L[i]).1 (L[i]).2) := fun j v hv => by
  have hj : j < 32 := by
    have := (List.getElem?_eq_some_iff.1 hv).1
    rwa [encL_len] at this
  have h1 := ecells_at L i hi j hj
  rw [hv, ← hc, List.getElem?_take_of_lt (by omega)] at h1
  rw [cell_of_row w g _ cur t fr hg]
  simpa using h1
theorem range_at {w : World} {g : Nat} {cur : Array Value} {t : TypeId} {fr : Nat × Nat} {L : List (Nat × Nat)} (hg : w.heap[g]? = some (.cells cur t fr)) (hc : cur.toList.take (L.length * 2) = rcells L) (i : Nat) (hi : i < L.length) :
    w.cell? ⟨g, i * 2, none⟩ = some (.int .u64 (L[i]).1) ∧ w.cell? ⟨g, i * 2 + 1, none⟩ = some (.int .u64 (L[i]).2) := by
  have h1 := rcells_at L i hi
  rw [← hc, List.getElem?_take_of_lt (by omega), List.getElem?_take_of_lt (by omega)] at h1
  rw [cell_of_row w g _ cur t fr hg, cell_of_row w g _ cur t fr hg]
  simpa using h1

end Go.Proofs.Ybulkcyrc
