/-
  THE CLOSURE (11: Cover's; 7: Exact's): it logs the range and answers its encoding.
-/
import Derived.Test.YbulkcyrcLeaf
namespace Go.Proofs.Ybulkcyrc
open Go.RowKit

theorem info27 : (Yba.prog.info? 27).map (fun i => (i.zero, i.size, i.bytes)) = some (some (.agg #[.int .u64 0, .int .u64 0]), 2, 16) := by kernel_rfl


theorem owns_of_block {w w' : World} {B : Nat} {e : TypeId} {size : Nat} {v : Value} {n : Nat} {xs : List Value} (hown : w.ownsRow B e size v n xs) (h : ∀ k, v.ownBlock = some k → w'.heap[k]? = w.heap[k]?) : w'.ownsRow B e size v n xs := by
  refine ⟨hown.1, ?_⟩
  rcases hown.2 with h2 | ⟨g, cap, cur, rfl, hg, hh, r⟩
  · exact .inl h2
  · exact .inr ⟨g, cap, cur, rfl, hg, (h g rfl).trans hh, r⟩
theorem heap_setCells_other (b : Nat) (k : Nat) (hk : k ≠ b) : ∀ (vs : List Value) (o : Nat) (w : World), (w.setCells b o vs).heap[k]? = w.heap[k]?
  | [], _, _ => rfl
  | v :: vs, o, w => by rw [World.setCells, heap_setCells_other b k hk vs]; exact Below.heap_setCell _ _ _ _ hk
theorem fr_setCells {b r : Nat} {x w : World} (h : Fr b x w) (hr : x.heap.size ≤ r) (vs : List Value) : Fr b x (w.setCells r 0 vs) := by
  have hh := below_setCells r r (Nat.le_refl _) vs 0 w w (Below.refl _ _)
  exact ⟨hh.os.trans h.os, hh.tape.trans h.tape, hh.output.trans h.output, Nat.le_trans h.size hh.size, fun k hk hb hn => (hh.block k (by omega)).trans (h.block k hk hb hn)⟩

/-- Behind the append. -/
theorem clo_step {B b n : Nat} {v : Value} {xs : List Value} {w w1 : World} {o1 o2 : Obj} (hb : w.heap[b]? = some (.cells #[v] 23 (0, 0))) (hown : w.ownsRow B 27 2 v n xs) (hB : B ≤ b)
    (hgrow : ((w.alloc o1).alloc o2).grownBy w1 v.ownBlock) :
    w1.heap[b]? = some (.cells #[v] 23 (0, 0)) ∧ w1.heap[w.heap.size]? = some o1 ∧ Fr b w w1 ∧ Below B w w1 ∧ w.heap.size + 2 ≤ w1.heap.size := by
  have hlt := lt_of_block hb
  have hsz : ((w.alloc o1).alloc o2).heap.size = w.heap.size + 2 := by simp
  have e1 : ((w.alloc o1).alloc o2).heap[b]? = w.heap[b]? := by rw [Below.heap_alloc _ _ _ (by simp; omega), Below.heap_alloc _ _ _ hlt]
  refine ⟨box_kept hgrow (e1.trans hb) (owns_ne hown hb (by decide)), ?_, ?_, ?_, by have := hgrow.size; omega⟩
  · rw [hgrow.block w.heap.size (by omega) (fun e => by have := (hown.lt _ e.symm).2; omega)]
    exact heap_alloc2_old w o1 o2
  · exact Fr.grown (((Fr.refl b w).alloc o1).alloc o2) hgrow ((hown.alloc o1).alloc o2)
  · exact Below.grown (((Below.refl B w).alloc (by omega) o1).alloc (by simp; omega) o2) hgrow (by omega) (fun k e => (hown.lt k e).1)

/-- Behind the callee and the store of the result. -/
theorem clo_end {B b r n : Nat} {v v' : Value} {ys : List Value} {w w1 w2 : World} {zs : Array Value} (hb1 : w1.heap[b]? = some (.cells #[v] 23 (0, 0))) (hr1 : w1.heap[r]? = some (.cells zs 25 (0, 0)))
    (hown1 : w1.ownsRow B 27 2 v' n ys) (hf : Fr b w w1) (hbl : Below B w w1) (hB : B ≤ b) (hr : w.heap.size ≤ r) (hBr : B ≤ r)
    (hbe : Below (w1.setCell ⟨b, 0, none⟩ v').heap.size (w1.setCell ⟨b, 0, none⟩ v') w2) (vs : List Value) :
    (w2.setCells r 0 vs).heap[b]? = some (.cells #[v'] 23 (0, 0)) ∧ (w2.setCells r 0 vs).ownsRow B 27 2 v' n ys ∧ Fr b w (w2.setCells r 0 vs) ∧ Below B w (w2.setCells r 0 vs) := by
  have hlt := lt_of_block hb1
  have hne : b ≠ r := fun e => by subst e; rw [hb1] at hr1; simp at hr1
  have hsz : (w1.setCell ⟨b, 0, none⟩ v').heap.size = w1.heap.size := by simp [World.setCell]
  refine ⟨?_, ?_, ?_, ?_⟩
  · rw [heap_setCells_other r b hne, hbe.block b (by omega)]
    exact one_setCell hb1
  · refine owns_of_block hown1 fun k hk => ?_
    have h27 := (hown1.lt k hk).2
    have hkr : k ≠ r := fun e => by subst e; exact owns_ne hown1 hr1 (by decide) hk
    have hkb : k ≠ b := fun e => by subst e; exact owns_ne hown1 hb1 (by decide) hk
    rw [heap_setCells_other r k hkr, hbe.block k (by omega), Below.heap_setCell _ _ _ _ hkb]
  · exact fr_setCells ((hf.box v').trans (Fr.ofBelow hbe)) hr vs
  · have hb2 := hbl.size
    exact below_setCells B r hBr vs 0 _ _ ((hbl.setCell (p := ⟨b, 0, none⟩) hB v').trans (hbe.mono (by omega)))

theorem clo_there {b r : Nat} {v' : Value} {w1 w2 : World} {zs : Array Value} (hr1 : w1.heap[r]? = some (.cells zs 25 (0, 0))) (hne : r ≠ b) (hz : zs.size = 32)
    (hbe : Below (w1.setCell ⟨b, 0, none⟩ v').heap.size (w1.setCell ⟨b, 0, none⟩ v') w2) : w2.there r 0 32 := by
  have hlt := lt_of_block hr1
  have hsz : (w1.setCell ⟨b, 0, none⟩ v').heap.size = w1.heap.size := by simp [World.setCell]
  have h2 : w2.heap[r]? = some (.cells zs 25 (0, 0)) := by rw [hbe.block r (by omega), Below.heap_setCell _ _ _ _ hne]; exact hr1
  intro j hj
  rw [Nat.zero_add, cell_of_row _ _ _ _ _ _ h2, frozen_of_row _ _ _ _ _ h2]
  refine ⟨?_, rfl⟩
  rw [Array.getElem?_eq_getElem (by omega)]; rfl

set_option maxHeartbeats 1000000 in
theorem clo11 (B b lo hi : Nat) (v : Value) (n : Nat) (xs : List Value) (w : World) (hb : w.heap[b]? = some (.cells #[v] 23 (0, 0))) (hown : w.ownsRow B 27 2 v n xs) (hB : B ≤ b) (hn : n ≤ 1000)
    (h1 : lo < 18446744073709551616) (h2 : hi < 18446744073709551616) :
    Calls Yba.prog 11 #[.int .u64 lo, .int .u64 hi, .pointer (some ⟨b, 0, none⟩)] w fun e w' => e = .returned (.agg (encL lo hi).toArray) ∧
      ∃ v', w'.heap[b]? = some (.cells #[v'] 23 (0, 0)) ∧ w'.ownsRow B 27 2 v' (n + 1) (xs ++ [.int .u64 lo, .int .u64 hi]) ∧ Fr b w w' ∧ Below B w w' := by
  have hlt := lt_of_block hb
  have hc : ∀ o, (w.alloc o).cell? ⟨b, 0, none⟩ = some v := fun o => cell_of_one (t := 23) ((Below.heap_alloc w o b hlt).trans hb)
  obtain ⟨i0, hi0, hz0, hz1, hz2⟩ := info_parts info27
  have hL := encL_len lo hi
  go_enter Yba.func11, Yba.ntmps11
  go_wp2_with (at_builtin; refine wpList_append_lies _ rfl (.tmp 6) (.tmp 10) 23 rfl B 27 i0 _ 2 16 Yba.underlying23 hi0 hz0 hz1 hz2 rfl (by omega) v n xs rfl ((hown.alloc _).alloc _) ⟨w.heap.size + 1, 0, none⟩ 1 1 [.int .u64 lo, .int .u64 hi] rfl rfl (World.news_of_block (cs := #[.int .u64 lo, .int .u64 hi]) (heap_alloc2_new w _ _)) (by intro u hu; simp at hu; rcases hu with rfl | rfl <;> rfl) (by omega) (by unfold maxLen; omega) (by omega) (by simp; omega) (w.heap.size + 2) (by simp) ?_; intro g cap w1 hown1 hgrow hat hlt1; obtain ⟨hb1, hr1, hf1, hbl1, hs1⟩ := clo_step hb hown hB hgrow; have hc1 := cell_of_one hb1; have hz1' := free_of_one hb1; clear hgrow hat hc hown hb; have Hr1 := hide hr1; clear hr1; have Hb1 := hide hb1; clear hb1)
  go_wp2_with (first | (go_at_call 8; refine (benc_any lo hi _ h1 h2).mono ?_; rintro e w2 ⟨rfl, hbe⟩; have hT := clo_there (unhide Hr1) (by omega) rfl hbe) | refine wpList_store_mid rfl 25 (.tmp 5) (.tmp 14) rfl w.heap.size 0 (encL lo hi).toArray rfl rfl (by simpa [hL] using hT) (by simpa [hL] using size25) (all_oneCell_toArray (encL_one lo hi)) ?_)
  have hT' : w2.there w.heap.size 0 (encL lo hi).length := by rw [hL]; exact hT
  have fin := clo_end (unhide Hb1) (unhide Hr1) hown1 hf1 hbl1 hB (Nat.le_refl _) (by omega) hbe (encL lo hi)
  exact bodyPost_ret (v := .agg (encL lo hi).toArray) (results_cell_mid Yba.results11 _ _ w.heap.size 0 (encL lo hi) _ rfl (World.rangeAt_setCells_same w2 w.heap.size 0 (encL lo hi) hT') Yba.underlying25 rfl (by rw [hL]; exact size25)) rfl ⟨rfl, _, fin⟩

set_option maxHeartbeats 1000000 in
theorem clo7 (B b lo hi : Nat) (v : Value) (n : Nat) (xs : List Value) (w : World) (hb : w.heap[b]? = some (.cells #[v] 23 (0, 0))) (hown : w.ownsRow B 27 2 v n xs) (hB : B ≤ b) (hn : n ≤ 1000)
    (h1 : lo < 18446744073709551616) (h2 : hi < 18446744073709551616) :
    Calls Yba.prog 7 #[.int .u64 lo, .int .u64 hi, .pointer (some ⟨b, 0, none⟩)] w fun e w' => e = .returned (.agg (encL lo hi).toArray) ∧
      ∃ v', w'.heap[b]? = some (.cells #[v'] 23 (0, 0)) ∧ w'.ownsRow B 27 2 v' (n + 1) (xs ++ [.int .u64 lo, .int .u64 hi]) ∧ Fr b w w' ∧ Below B w w' := by
  have hlt := lt_of_block hb
  have hc : ∀ o, (w.alloc o).cell? ⟨b, 0, none⟩ = some v := fun o => cell_of_one (t := 23) ((Below.heap_alloc w o b hlt).trans hb)
  obtain ⟨i0, hi0, hz0, hz1, hz2⟩ := info_parts info27
  have hL := encL_len lo hi
  go_enter Yba.func7, Yba.ntmps7
  go_wp2_with (at_builtin; refine wpList_append_lies _ rfl (.tmp 6) (.tmp 10) 23 rfl B 27 i0 _ 2 16 Yba.underlying23 hi0 hz0 hz1 hz2 rfl (by omega) v n xs rfl ((hown.alloc _).alloc _) ⟨w.heap.size + 1, 0, none⟩ 1 1 [.int .u64 lo, .int .u64 hi] rfl rfl (World.news_of_block (cs := #[.int .u64 lo, .int .u64 hi]) (heap_alloc2_new w _ _)) (by intro u hu; simp at hu; rcases hu with rfl | rfl <;> rfl) (by omega) (by unfold maxLen; omega) (by omega) (by simp; omega) (w.heap.size + 2) (by simp) ?_; intro g cap w1 hown1 hgrow hat hlt1; obtain ⟨hb1, hr1, hf1, hbl1, hs1⟩ := clo_step hb hown hB hgrow; have hc1 := cell_of_one hb1; have hz1' := free_of_one hb1; clear hgrow hat hc hown hb; have Hr1 := hide hr1; clear hr1; have Hb1 := hide hb1; clear hb1)
  go_wp2_with (first | (go_at_call 8; refine (benc_any lo hi _ h1 h2).mono ?_; rintro e w2 ⟨rfl, hbe⟩; have hT := clo_there (unhide Hr1) (by omega) rfl hbe) | refine wpList_store_mid rfl 25 (.tmp 5) (.tmp 14) rfl w.heap.size 0 (encL lo hi).toArray rfl rfl (by simpa [hL] using hT) (by simpa [hL] using size25) (all_oneCell_toArray (encL_one lo hi)) ?_)
  have hT' : w2.there w.heap.size 0 (encL lo hi).length := by rw [hL]; exact hT
  have fin := clo_end (unhide Hb1) (unhide Hr1) hown1 hf1 hbl1 hB (Nat.le_refl _) (by omega) hbe (encL lo hi)
  exact bodyPost_ret (v := .agg (encL lo hi).toArray) (results_cell_mid Yba.results7 _ _ w.heap.size 0 (encL lo hi) _ rfl (World.rangeAt_setCells_same w2 w.heap.size 0 (encL lo hi) hT') Yba.underlying25 rfl (by rw [hL]; exact size25)) rfl ⟨rfl, _, fin⟩

end Go.Proofs.Ybulkcyrc
