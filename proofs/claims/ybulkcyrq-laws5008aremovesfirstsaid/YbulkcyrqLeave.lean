/-
  slices.Delete at []*worker (10), Wheel.leave (6).
-/
import Derived.Test.YbulkcyrqShelf
import Derived.Test.YbulkcyrqIndex
import Derived.LaidEqlPtr
import Derived.Lib.Builder
namespace Go.Proofs.Ybulkcyrq
open Go.RowKit Go.Sort

/-- Worker k's address: the block behind the array's. -/
def wk (N k : Nat) : Addr := ⟨N + 1 + k, 0, none⟩
def encW (N : Nat) : Option Nat → Value := fun o => .pointer (o.map (wk N))

theorem putRow_block {α : Type} [Inhabited α] (enc : α → Value) (w : World) (blk off : Nat) (d : Array α) (k : Nat) (h : k ≠ blk) : (putRow enc w blk off d).heap[k]? = w.heap[k]? := by
  unfold putRow mapBlock
  simp only [Array.getElem?_modify]
  rw [if_neg (by omega)]

/-- What Delete leaves: block G alone turns. -/
structure But (G : Nat) (w w' : World) : Prop where
  os : w'.os = w.os
  tape : w'.tape = w.tape
  output : w'.output = w.output
  size : w'.heap.size = w.heap.size
  block : ∀ k, k ≠ G → w'.heap[k]? = w.heap[k]?

theorem info23 : ∃ j, Yba.prog.info? 23 = some j ∧ j.size = 1 := by
  have h : (Yba.prog.info? 23).map (·.size) = some 1 := by kernel_rfl
  cases hq : Yba.prog.info? 23 with
  | none => rw [hq] at h; simp at h
  | some j => rw [hq] at h; exact ⟨j, rfl, by simpa using h⟩

theorem del_any (N G cap j : Nat) (ks : List Nat) (w : World) (hc : ∀ i (h : i < ks.length), w.cell? ⟨G, i, none⟩ = some (.pointer (some (wk N ks[i]))) ∧ w.frozen? ⟨G, i, none⟩ = false)
    (hcap : ks.length ≤ cap) (hm : cap ≤ 9223372036854775807) (hj : j < ks.length) :
    Calls Yba.prog 10 #[.slice (some ⟨G, 0, none⟩) ks.length cap, .int .i64 j, .int .i64 ((j : Int) + 1)] w fun e w' => e = .returned (.slice (some ⟨G, 0, none⟩) (ks.length - 1) cap) ∧
      (∀ i (h : i < (ks.eraseIdx j).length), w'.cell? ⟨G, i, none⟩ = some (.pointer (some (wk N (ks.eraseIdx j)[i])))) ∧ But G w w' := by
  obtain ⟨i0, hi0, hz⟩ := info23
  have hH : Holds (encW N) w G 0 (ks.map some).toArray := by
    intro i hi
    simp at hi
    have := hc i hi
    simpa [encW, hi] using this
  have h := AnyE.slices_Delete Yba.lays10 (encW N) (fun _ => rfl) none (fun w => Yba.zeroValue23 w) i0 hi0 hz G 0 cap j (j + 1) (ks.map some).toArray w hH (by simpa using hcap) hm (by omega) (by simp; omega)
  simp only [List.size_toArray, List.length_map] at h
  have h' : Calls Yba.prog 10 #[.slice (some ⟨G, 0, none⟩) ks.length cap, .int .i64 j, .int .i64 ((j + 1 : Nat) : Int)] w _ := h
  rw [show ((j + 1 : Nat) : Int) = (j : Int) + 1 from by omega] at h'
  refine h'.mono ?_
  rintro e w' ⟨rfl, q, rfl⟩
  refine ⟨by rw [show j + 1 - j = 1 from by omega], ?_, rfl, rfl, rfl, by simp, fun k hk => putRow_block _ _ _ _ _ _ hk⟩
  intro i hi
  have hl : (ks.eraseIdx j).length = ks.length - 1 := List.length_eraseIdx_of_lt hj
  have he : (List.map some ks).toArray.toList.take j ++ (List.map some ks).toArray.toList.drop (j + 1) ++ List.replicate (j + 1 - j) (none : Option Nat) = (ks.eraseIdx j).map some ++ [none] := by
    rw [show j + 1 - j = 1 from by omega, List.eraseIdx_eq_take_drop_succ]
    simp [List.map_take, List.map_drop]
  rw [he]
  have hs : ((ks.eraseIdx j).map some ++ [none]).toArray.size = (ks.map some).toArray.size := by simp; omega
  have := cell?_putRow (encW N) (Sort.ahead w q) G 0 (ks.map some).toArray _ hH hs i (by rw [hs]; simp; omega)
  rw [Nat.zero_add] at this
  rw [this]
  have hi2 : i < ((ks.eraseIdx j).map some ++ [none]).toArray.size := by rw [hs]; simp; omega
  rw [getElem!_pos _ i hi2]
  simp only [List.getElem_toArray]
  rw [List.getElem_append_left (by simpa using hi)]
  simp [encW]

set_option maxHeartbeats 400000 in
theorem leave_hit (WB DB N G cap j t : Nat) (ks : List Nat) (w : World) (hW : w.cell? ⟨WB, 20, none⟩ = some (.pointer (some ⟨DB, 0, none⟩))) (hD : w.cell? ⟨DB, 9, none⟩ = some (.slice (some ⟨G, 0, none⟩) ks.length cap)) (hDf : w.frozen? ⟨DB, 9, none⟩ = false) (hne : DB ≠ G)
    (hc : ∀ i (h : i < ks.length), w.cell? ⟨G, i, none⟩ = some (.pointer (some (wk N ks[i]))) ∧ w.frozen? ⟨G, i, none⟩ = false)
    (hE : ∀ i (h : i < ks.length), (binOp .eql 23 (.pointer (some (wk N t))) (.pointer (some (wk N ks[i])))).run Yba.prog w = .ok (.bool (t == ks[i])) w)
    (hn : ks.length ≤ 1024) (hcap : ks.length ≤ cap) (hm : cap ≤ 9223372036854775807) (hj : j < ks.length) (hq : (t == ks[j]) = true) (hb : ∀ i (h : i < j), (t == ks[i]) = false) :
    Calls Yba.prog 6 #[.pointer (some ⟨WB, 0, none⟩), .pointer (some (wk N t))] w fun e w' => e = .returned (.tuple #[]) ∧
      ∃ w2, (∀ i (h : i < (ks.eraseIdx j).length), w2.cell? ⟨G, i, none⟩ = some (.pointer (some (wk N (ks.eraseIdx j)[i])))) ∧ But G w w2 ∧ w' = w2.setCell ⟨DB, 9, none⟩ (.slice (some ⟨G, 0, none⟩) (ks.length - 1) cap) := by
  have H1 := hide (index_hit G ks.length cap j (wk N t) (fun i => wk N (ks.getD i 0)) (fun i => t == ks.getD i 0) w hn (fun i hi => by simpa [hi] using (hc i hi).1) (fun i hi => by simpa [hi] using hE i hi) hj (by simpa [hj] using hq) (fun i hi => by have := hb i hi; simpa [show i < ks.length by omega] using this))
  have H2 := hide (del_any N G cap j ks w hc hcap hm hj)
  clear hc hE hq hb
  generalize wk N t = pt at *
  go_enter Yba.func6, Yba.ntmps6
  go_wp2_with (first
    | (go_at_call 9; refine (unhide H1).mono ?_; rintro e w1 ⟨rfl, rfl⟩)
    | (go_at_call 10; refine (unhide H2).mono ?_; rintro e w2 ⟨rfl, hcel, hbut⟩; have hbk := hbut.block DB hne; have hD2 := (World.cell?_of_block (a := ⟨DB, 9, none⟩) hbk).trans hD; have hF2 := (World.frozen?_of_block (a := ⟨DB, 9, none⟩) hbk).trans hDf; have HB := hide hbk; clear hbk; have HC := hide hcel; clear hcel))
  go_end0
  exact ⟨rfl, w2, unhide HC, hbut, rfl⟩

set_option maxHeartbeats 400000 in
theorem leave_miss (WB DB N G cap t : Nat) (ks : List Nat) (w : World) (hW : w.cell? ⟨WB, 20, none⟩ = some (.pointer (some ⟨DB, 0, none⟩))) (hD : w.cell? ⟨DB, 9, none⟩ = some (.slice (some ⟨G, 0, none⟩) ks.length cap))
    (hc : ∀ i (h : i < ks.length), w.cell? ⟨G, i, none⟩ = some (.pointer (some (wk N ks[i]))))
    (hE : ∀ i (h : i < ks.length), (binOp .eql 23 (.pointer (some (wk N t))) (.pointer (some (wk N ks[i])))).run Yba.prog w = .ok (.bool (t == ks[i])) w)
    (hn : ks.length ≤ 1024) (hb : ∀ i (h : i < ks.length), (t == ks[i]) = false) :
    Calls Yba.prog 6 #[.pointer (some ⟨WB, 0, none⟩), .pointer (some (wk N t))] w fun e w' => e = .returned (.tuple #[]) ∧ w = w' := by
  have H1 := hide (index_miss G ks.length cap (wk N t) (fun i => wk N (ks.getD i 0)) w hn (fun i hi => by simpa [hi] using hc i hi) (fun i hi => by have h1 := hE i hi; rw [hb i hi] at h1; simpa [hi] using h1))
  clear hc hE hb
  generalize wk N t = pt at *
  go_enter Yba.func6, Yba.ntmps6
  go_wp2_with (go_at_call 9; refine (unhide H1).mono ?_; rintro e w1 ⟨rfl, rfl⟩)
  go_end0
  exact ⟨rfl, rfl⟩

/-- What leave leaves. -/
structure Left (DB N G cap : Nat) (ks : List Nat) (w w' : World) : Prop where
  row : ∀ i (h : i < ks.length), w'.cell? ⟨G, i, none⟩ = some (.pointer (some (wk N ks[i])))
  fld : w'.cell? ⟨DB, 9, none⟩ = some (.slice (some ⟨G, 0, none⟩) ks.length cap)
  oth : ∀ a : Addr, a.block ≠ G → a ≠ ⟨DB, 9, none⟩ → w'.cell? a = w.cell? a
  blk : ∀ k, k ≠ G → k ≠ DB → w'.heap[k]? = w.heap[k]?
  size : w'.heap.size = w.heap.size
  os : w'.os = w.os
  tape : w'.tape = w.tape
  output : w'.output = w.output

theorem leave_any (WB DB N G cap t : Nat) (ks : List Nat) (w : World) (hW : w.cell? ⟨WB, 20, none⟩ = some (.pointer (some ⟨DB, 0, none⟩))) (hD : w.cell? ⟨DB, 9, none⟩ = some (.slice (some ⟨G, 0, none⟩) ks.length cap)) (hDf : w.frozen? ⟨DB, 9, none⟩ = false) (hne : DB ≠ G)
    (hc : ∀ i (h : i < ks.length), w.cell? ⟨G, i, none⟩ = some (.pointer (some (wk N ks[i]))) ∧ w.frozen? ⟨G, i, none⟩ = false)
    (hE : ∀ i (h : i < ks.length), (binOp .eql 23 (.pointer (some (wk N t))) (.pointer (some (wk N ks[i])))).run Yba.prog w = .ok (.bool (t == ks[i])) w)
    (hn : ks.length ≤ 1024) (hcap : ks.length ≤ cap) (hm : cap ≤ 9223372036854775807) :
    Calls Yba.prog 6 #[.pointer (some ⟨WB, 0, none⟩), .pointer (some (wk N t))] w fun e w' => e = .returned (.tuple #[]) ∧ Left DB N G cap (ks.erase t) w w' := by
  by_cases hmem : t ∈ ks
  · have hj := List.idxOf_lt_length_of_mem hmem
    refine (leave_hit WB DB N G cap (ks.idxOf t) t ks w hW hD hDf hne hc hE hn hcap hm hj (by simp) (fun i hi => ?_)).mono ?_
    · have := List.not_of_lt_findIdx (p := (· == t)) hi
      rw [beq_eq_false_iff_ne] at this ⊢
      exact fun e => this e.symm
    · rintro e w' ⟨rfl, w2, h1, h2, rfl⟩
      have e1 : ks.erase t = ks.eraseIdx (ks.idxOf t) := List.erase_eq_eraseIdx_of_idxOf rfl
      have e2 : (ks.eraseIdx (ks.idxOf t)).length = ks.length - 1 := List.length_eraseIdx_of_lt hj
      have hD2 := (World.cell?_of_block (a := ⟨DB, 9, none⟩) (h2.block DB hne)).trans hD
      rw [e1]
      refine ⟨rfl, fun i hi => ?_, ?_, fun a ha hb => ?_, fun k hk hk2 => ?_, ?_, h2.os, h2.tape, h2.output⟩
      · exact (World.cell?_setCell_other w2 ⟨DB, 9, none⟩ ⟨G, i, none⟩ _ (fun e => hne (by injection e))).trans (h1 i hi)
      · rw [e2]; exact World.cell?_setCell_same _ _ _ hD2
      · exact (World.cell?_setCell_other _ _ _ _ (Ne.symm hb)).trans (World.cell?_of_block (h2.block _ ha))
      · rw [Below.heap_setCell _ _ _ _ hk2]; exact h2.block k hk
      · rw [show (w2.setCell ⟨DB, 9, none⟩ (.slice (some ⟨G, 0, none⟩) (ks.length - 1) cap)).heap.size = w2.heap.size from by simp [World.setCell]]; exact h2.size
  · refine (leave_miss WB DB N G cap t ks w hW hD (fun i h => (hc i h).1) hE hn (fun i h => ?_)).mono ?_
    · have : t ≠ ks[i] := fun e => hmem (e ▸ List.getElem_mem h)
      simpa using this
    · rintro e w' ⟨rfl, rfl⟩
      rw [List.erase_of_not_mem hmem]
      exact ⟨rfl, fun i h => (hc i h).1, hD, fun _ _ _ => rfl, fun _ _ _ => rfl, rfl, rfl, rfl, rfl⟩

end Go.Proofs.Ybulkcyrq
