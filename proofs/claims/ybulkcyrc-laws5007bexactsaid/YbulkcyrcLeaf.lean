/-
  THE LEAVES: split (18), zzs5007benc (8).
-/
import Derived.Test.YbulkcyrcProg
import Derived.Test.YbulkcyrcShelf
import Derived.Test.YbulkcyrcFrame
import Derived.WalkSpells
import Derived.Deep.RegionWith
import Derived.Deep.MidRow
namespace Go.Proofs.Ybulkcyrc
open Go.RowKit

theorem bitLenAux_log (f : Nat) : ∀ x, x ≠ 0 → x < 2 ^ f → Lib.bitLenAux f x = Nat.log2 x + 1 := by
  induction f with
  | zero => intro x h0 h; simp at h; omega
  | succ f ih =>
    intro x h0 h
    rw [Lib.bitLenAux, if_neg h0]
    by_cases h2 : x / 2 = 0
    · have : x = 1 := by omega
      subst this
      rw [h2]
      have e : Lib.bitLenAux f 0 = 0 := by cases f <;> simp [Lib.bitLenAux]
      rw [e]; decide
    · rw [ih (x / 2) h2 (by rw [Nat.pow_succ] at h; omega)]
      rw [Nat.log2_def x, if_pos (by omega)]
      omega
theorem bitLen_log (x : Nat) (h0 : x ≠ 0) (h : x < 2 ^ 64) : Lib.bitLen x = Nat.log2 x + 1 := bitLenAux_log 64 x h0 h

theorem wrap_two_pow (l : Nat) (h : l < 64) : IntKind.u64.wrap (2 ^ l) = ((2 ^ l : Nat) : Int) := by
  have h1 : (2 ^ l : Nat) < 2 ^ 64 := Nat.pow_lt_pow_right (by omega) h
  have h2 : ((2 : Int) ^ l) = ((2 ^ l : Nat) : Int) := by simp
  rw [h2]
  generalize 2 ^ l = k at *
  simp [IntKind.wrap, IntKind.bits, IntKind.signed]
  omega
theorem ret_int {k : IntKind} {a b : Int} (h : a = b) : Ending.returned (.int k a) = .returned (.int k b) := by rw [h]

set_option maxHeartbeats 400000 in
theorem split_any (x : Int) (w : World) (h1 : 2 ≤ x) (h2 : x ≤ 18446744073709551615) :
    Calls Yba.prog 18 #[.int .u64 x] w fun e w' => e = .returned (.int .u64 ((Plain.spl x.toNat : Nat) : Int)) ∧ w' = w := by
  have hb : Lib.bitLen (x.toNat - 1) = Nat.log2 (x.toNat - 1) + 1 := bitLen_log _ (by omega) (by omega)
  have hl : Nat.log2 (x.toNat - 1) < 64 := (Nat.log2_lt (by omega)).2 (by omega)
  unfold Plain.spl
  obtain ⟨l, hll⟩ : ∃ l, Nat.log2 (x.toNat - 1) = l := ⟨_, rfl⟩
  rw [hll] at hb hl ⊢
  clear hll
  go_enter Yba.func18, Yba.ntmps18
  go_wp2_with (go_at_call 21; refine (Yba.bits_Len64 _ _ (by omega) (by omega)).mono ?_; rintro e w' ⟨rfl, rfl⟩)
  go_ret
  exact ⟨ret_int (wrap_two_pow l hl), rfl⟩

/-! ### The encoding -/
def encL (lo hi : Nat) : List Value := Lib.byteCells (Lib.beBytes 8 lo) ++ (Lib.byteCells (Lib.beBytes 8 hi) ++ List.replicate 16 (.int .u8 0))
theorem be_len (v : Nat) : (Lib.byteCells (Lib.beBytes 8 v)).length = 8 := by simp [Lib.byteCells, Lib.beBytes, Lib.leBytes]
theorem be_one (v : Nat) : ∀ u ∈ Lib.byteCells (Lib.beBytes 8 v), u.oneCell' = true := by
  intro u hu
  simp only [Lib.byteCells, List.mem_map] at hu
  obtain ⟨x, _, rfl⟩ := hu
  rfl
theorem encL_len (lo hi : Nat) : (encL lo hi).length = 32 := by simp [encL, be_len]
theorem encL_one (lo hi : Nat) : ∀ u ∈ encL lo hi, u.oneCell' = true := by
  intro u hu
  rcases List.mem_append.1 hu with h | h
  · exact be_one _ u h
  rcases List.mem_append.1 h with h | h
  · exact be_one _ u h
  · rw [List.eq_of_mem_replicate h]; rfl

structure Put (g o v : Nat) (w w' : World) : Prop where
  r : w'.rangeAt g o (Lib.byteCells (Lib.beBytes 8 v))
  keep : ∀ b' o' cs, w.rangeAt b' o' cs → (b' ≠ g ∨ o' + cs.length ≤ o ∨ o + 8 ≤ o') → w'.rangeAt b' o' cs
  thr : ∀ b' o' n, w.there b' o' n → w'.there b' o' n
  below : ∀ B, B ≤ g → B ≤ w.heap.size → Below B w w'
  size : w.heap.size < w'.heap.size

theorem setCells_size (b : Nat) : ∀ (vs : List Value) (o : Nat) (w : World), (w.setCells b o vs).heap.size = w.heap.size
  | [], _, _ => rfl
  | v :: vs, o, w => by rw [World.setCells, setCells_size b vs]; simp [World.setCell]
theorem below_setCells (B b : Nat) (hB : B ≤ b) : ∀ (vs : List Value) (o : Nat) (a w : World), Below B a w → Below B a (w.setCells b o vs)
  | [], _, _, _, h => h
  | v :: vs, o, a, w, h => by rw [World.setCells]; exact below_setCells B b hB vs _ a _ (h.setCell hB v)

theorem put_any (g o n c v : Nat) (w : World) (hv : v < 18446744073709551616) (hn : 8 ≤ n) (ht : w.there g o 8) :
    Calls Yba.prog 14 #[.agg #[], .slice (some ⟨g, o, none⟩) n c, .int .u64 v] w fun e w' => e = .returned (.tuple #[]) ∧ Put g o v w w' := by
  obtain ⟨x0, c0⟩ := Option.isSome_iff_exists.1 (ht 0 (by omega)).1
  obtain ⟨x1, c1⟩ := Option.isSome_iff_exists.1 (ht 1 (by omega)).1
  obtain ⟨x2, c2⟩ := Option.isSome_iff_exists.1 (ht 2 (by omega)).1
  obtain ⟨x3, c3⟩ := Option.isSome_iff_exists.1 (ht 3 (by omega)).1
  obtain ⟨x4, c4⟩ := Option.isSome_iff_exists.1 (ht 4 (by omega)).1
  obtain ⟨x5, c5⟩ := Option.isSome_iff_exists.1 (ht 5 (by omega)).1
  obtain ⟨x6, c6⟩ := Option.isSome_iff_exists.1 (ht 6 (by omega)).1
  obtain ⟨x7, c7⟩ := Option.isSome_iff_exists.1 (ht 7 (by omega)).1
  refine (Yba.binary_BE_PutUint64 g o n c v hv x0 x1 x2 x3 x4 x5 x6 x7 w hn c0 c1 c2 c3 c4 c5 c6 c7 (ht 0 (by omega)).2 (ht 1 (by omega)).2 (ht 2 (by omega)).2 (ht 3 (by omega)).2 (ht 4 (by omega)).2 (ht 5 (by omega)).2 (ht 6 (by omega)).2 (ht 7 (by omega)).2).mono ?_
  rintro e w' ⟨rfl, rfl⟩
  refine ⟨rfl, ?_, ?_, ?_, ?_, ?_⟩
  · exact World.rangeAt_setCells_same _ _ _ _ (by rw [be_len]; exact World.there_alloc ht _)
  · intro b' o' cs h hap
    exact World.rangeAt_setCells_apart (World.rangeAt_alloc h _) _ _ _ (by rw [be_len]; exact hap)
  · intro b' o' m h
    exact World.there_setCells (World.there_alloc h _) _ _ _
  · intro B hB hs
    exact below_setCells B g hB _ _ _ _ ((Below.refl _ _).alloc hs _)
  · rw [setCells_size]; simp

theorem results_cell_mid {P : Program} {fn : Func} {p : Tmp} {ty : TypeId} (h : fn.results = #[.cell p ty]) (tmps : Array Value) (w : World) (b o : Nat) (cs : List Value) (d : TypeDesc)
    (hp : tmps.getD p undef = .pointer (some ⟨b, o, none⟩)) (hc : w.rangeAt b o cs)
    (hu : P.underlying ty = some d) (hd : d.isRow = true) (hi : (P.info? ty).map (·.size) = some cs.length) :
    (results fn tmps).run P w = .ok (.agg cs.toArray) w := by
  have hp' : tmps[p]?.getD undef = .pointer (some ⟨b, o, none⟩) := by simpa using hp
  simp [results, h, hp', asAddr, run_loadVar_mid w b o ty cs d hc hu hd hi]

theorem size25 : (Yba.prog.info? 25).map (·.size) = some 32 := by kernel_rfl

theorem range_cat {w : World} {b o : Nat} {xs ys : List Value} (h : w.rangeAt b o xs) (k : w.rangeAt b (o + xs.length) ys) : w.rangeAt b o (xs ++ ys) := fun j v hv => by
  rcases Nat.lt_or_ge j xs.length with hj | hj
  · rw [List.getElem?_append_left hj] at hv; exact h j v hv
  · rw [List.getElem?_append_right hj] at hv
    have := k _ _ hv
    rwa [show o + xs.length + (j - xs.length) = o + j from by omega] at this

/-- The new array: 32 noughts. -/
theorem zeros_at (w : World) (o : Obj) (cs : Array Value) (t : TypeId) (ho : o = .cells cs t) (hz : cs = Array.replicate 32 (.int .u8 0)) :
    (w.alloc o).rangeAt w.heap.size 0 (List.replicate 32 (.int .u8 0)) ∧ (w.alloc o).there w.heap.size 0 32 := by
  subst ho hz
  have hb := heap_alloc_new w (.cells (Array.replicate 32 (.int .u8 0)) t)
  constructor
  · have := World.rangeAt_of_block hb 0 32
    simpa using this
  · intro j hj
    rw [cell_of_row _ _ _ _ _ _ hb, frozen_of_row _ _ _ _ _ hb]
    simp [hj]
theorem range_mid {w : World} {b o : Nat} {xs ys : List Value} (h : w.rangeAt b o (xs ++ ys)) : w.rangeAt b (o + xs.length) ys := fun j v hv => by
  have := h (xs.length + j) v (by rw [List.getElem?_append_right (by omega)]; simpa using hv)
  rwa [← Nat.add_assoc] at this

set_option maxHeartbeats 1000000 in
theorem benc_any (lo hi : Nat) (w : World) (h1 : lo < 18446744073709551616) (h2 : hi < 18446744073709551616) :
    Calls Yba.prog 8 #[.int .u64 lo, .int .u64 hi] w fun e w' => e = .returned (.agg (encL lo hi).toArray) ∧ Below w.heap.size w w' := by
  obtain ⟨za, zt⟩ := zeros_at w _ _ 25 rfl rfl
  have zt' := World.there_alloc zt (.cells (Array.replicate 32 (.int .u8 0)) 25)
  obtain ⟨ya, yt⟩ := zeros_at (w.alloc (.cells (Array.replicate 32 (.int .u8 0)) 25)) _ _ 25 rfl rfl
  have hbel : Below w.heap.size w ((w.alloc (.cells (Array.replicate 32 (.int .u8 0)) 25)).alloc (.cells (Array.replicate 32 (.int .u8 0)) 25)) := ((Below.refl _ _).alloc (Nat.le_refl _) _).alloc (by simp) _
  have hsz : ((w.alloc (.cells (Array.replicate 32 (.int .u8 0)) 25)).alloc (.cells (Array.replicate 32 (.int .u8 0)) 25)).heap.size = w.heap.size + 2 := by simp
  rw [World.size_alloc] at ya yt
  have yt8 : ((w.alloc (.cells (Array.replicate 32 (.int .u8 0)) 25)).alloc (.cells (Array.replicate 32 (.int .u8 0)) 25)).there (w.heap.size + 1) 0 8 := fun j hj => yt j (by omega)
  have ya16 : ((w.alloc (.cells (Array.replicate 32 (.int .u8 0)) 25)).alloc (.cells (Array.replicate 32 (.int .u8 0)) 25)).rangeAt (w.heap.size + 1) 16 (List.replicate 16 (.int .u8 0)) := by
    have := range_mid (xs := List.replicate 16 (.int .u8 0)) (ys := List.replicate 16 (.int .u8 0)) ya
    rw [List.length_replicate, Nat.zero_add] at this
    exact this
  have hle : w.heap.size ≤ ((w.alloc (.cells (Array.replicate 32 (.int .u8 0)) 25)).alloc (.cells (Array.replicate 32 (.int .u8 0)) 25)).heap.size := by omega
  go_enter Yba.func8, Yba.ntmps8
  go_wp2
  go_region_with (go_at_call 14; refine (put_any _ _ _ _ _ _ h1 (by omega) ?_).mono ?_; exact yt8; rintro e w2 ⟨rfl, hp⟩)
  have yt2 : w2.drew.there (w.heap.size + 1) 8 8 := fun j hj => by
    have := hp.thr (w.heap.size + 1) 0 32 yt (8 + j) (by omega)
    rwa [show 0 + (8 + j) = 8 + j from by omega] at this
  go_wp2
  go_region_with (go_at_call 14; refine (put_any _ _ _ _ _ _ h2 (by omega) ?_).mono ?_; exact yt2; rintro e w3 ⟨rfl, hq⟩)
  have hR : w3.rangeAt (w.heap.size + 1) 0 (encL lo hi) := by
    refine range_cat (hq.keep _ _ _ hp.r (by rw [be_len]; omega)) ?_
    rw [be_len]
    refine range_cat hq.r ?_
    rw [be_len]
    refine hq.keep _ _ _ (hp.keep _ _ _ ?_ (by omega)) (by omega)
    exact ya16
  have hT : w3.there w.heap.size 0 32 := hq.thr _ _ _ (hp.thr _ _ _ zt')
  have hB1 := hp.below w.heap.size (by omega) hle
  have hB2 := hq.below w.heap.size (by omega) (Nat.le_trans hle (Nat.le_of_lt hp.size))
  have hB : Below w.heap.size w w3 := Below.trans (Below.trans hbel.drew hB1).drew hB2
  have hL := encL_len lo hi
  clear yt2 hp hq yt8 yt zt' zt za ya hbel hsz hB1 hB2 hle ya16
  go_wp2_with (first | (refine wpList_load_mid rfl 25 (.tmp 5) rfl (w.heap.size + 1) 0 rfl (encL lo hi) _ hR Yba.underlying25 rfl (by rw [hL]; exact size25) ?_) | (refine wpList_store_mid rfl 25 (.tmp 4) (.tmp 14) rfl w.heap.size 0 (encL lo hi).toArray rfl rfl (by simpa [hL] using hT) (by simpa [hL] using size25) (all_oneCell_toArray (encL_one lo hi)) ?_))
  have hT' : w3.there w.heap.size 0 (encL lo hi).length := by rw [hL]; exact hT
  exact bodyPost_ret (v := .agg (encL lo hi).toArray) (results_cell_mid Yba.results8 _ _ w.heap.size 0 (encL lo hi) _ rfl (World.rangeAt_setCells_same w3 w.heap.size 0 (encL lo hi) hT') Yba.underlying25 rfl (by rw [hL]; exact size25)) rfl ⟨rfl, below_setCells _ _ (Nat.le_refl _) _ _ _ _ hB⟩
end Go.Proofs.Ybulkcyrc
