/-
  LawS5008ARemovesFirst (3): the walk.
-/
import Derived.Test.YbulkcyrqLeave
import Derived.Deep.OwnRows
import Derived.Deep.AppendLies
namespace Go.Proofs.Ybulkcyrq
open Go.RowKit

/-- The nine workers and the array that holds them: 'k' of them are there. -/
structure Zs (N k : Nat) (w0 w : World) : Prop where
  size : N + 1 + k ≤ w.heap.size
  arr : ∃ cs : Array Value, w.heap[N]? = some (.cells cs 24 (0, 0)) ∧ cs.size = 9 ∧ ∀ j, j < k → cs[j]? = some (.pointer (some (wk N j)))
  wrk : ∀ j, j < k → w.heap[N + 1 + j]? = some (.cells #[.int .i64 0, .bool false] 31 (0, 0))
  below : Below N w0 w

theorem Zs.cell {N k : Nat} {w0 w : World} (h : Zs N k w0 w) (j : Nat) (hj : j < k) : w.cell? ⟨N, j, none⟩ = some (.pointer (some (wk N j))) := by
  obtain ⟨cs, h1, _, h3⟩ := h.arr
  rw [cell_of_row _ _ _ _ _ _ h1]; exact h3 j hj
theorem Zs.there {N k : Nat} {w0 w : World} (h : Zs N k w0 w) (j : Nat) (hj : j < 9) : ∃ v, w.cell? ⟨N, j, none⟩ = some v := by
  obtain ⟨cs, h1, h2, _⟩ := h.arr
  rw [cell_of_row _ _ _ _ _ _ h1]; exact ⟨_, Array.getElem?_eq_getElem (by omega)⟩
theorem Zs.free {N k : Nat} {w0 w : World} (h : Zs N k w0 w) (j : Nat) : w.frozen? ⟨N, j, none⟩ = false := by
  obtain ⟨cs, h1, _, _⟩ := h.arr
  exact frozen_of_row _ _ _ _ _ h1
theorem Zs.start (w : World) (cs : Array Value) (hs : cs.size = 9) : Zs w.heap.size 0 w (w.alloc (.cells cs 24)) :=
  ⟨by simp, ⟨cs, heap_alloc_new _ _, hs, fun j hj => by omega⟩, fun j hj => by omega, (Below.refl _ _).alloc (Nat.le_refl _) _⟩
theorem Zs.step {N k : Nat} {w0 w : World} (h : Zs N k w0 w) (hk : k < 9) (hs : w.heap.size = N + 1 + k) : Zs N (k + 1) w0 ((w.alloc (.cells #[.int .i64 0, .bool false] 31)).setCell ⟨N, k, none⟩ (.pointer (some (wk N k)))) := by
  obtain ⟨cs, h1, h2, h3⟩ := h.arr
  have h1' : (w.alloc (.cells #[.int .i64 0, .bool false] 31)).heap[N]? = some (.cells cs 24 (0, 0)) := (Below.heap_alloc _ _ _ (by omega)).trans h1
  refine ⟨by simp [World.setCell]; omega, ⟨cs.setIfInBounds k (.pointer (some (wk N k))), heap_setCell_same _ N k cs 24 _ h1', by simpa using h2, fun j hj => ?_⟩, fun j hj => ?_, (h.below.alloc (by omega) _).setCell (p := ⟨N, k, none⟩) (Nat.le_refl _) _⟩
  · by_cases e : j = k
    · subst e; simp [h2, hk]
    · rw [Array.getElem?_setIfInBounds_ne (by omega)]; exact h3 j (by omega)
  · rw [Below.heap_setCell _ _ _ _ (by show N + 1 + j ≠ N; omega)]
    by_cases e : j = k
    · subst e; have := heap_alloc_new w (.cells #[.int .i64 0, .bool false] 31); rwa [hs] at this
    · rw [Below.heap_alloc _ _ _ (by omega)]; exact h.wrk j (by omega)
/-- It stays while nothing below N + 1 + k turns. -/
theorem Zs.kept {N k : Nat} {w0 w w' : World} (h : Zs N k w0 w) (hb : Below (N + 1 + k) w w') : Zs N k w0 w' := by
  obtain ⟨cs, h1, h2, h3⟩ := h.arr
  exact ⟨Nat.le_trans h.size hb.size, ⟨cs, (hb.block N (by omega)).trans h1, h2, h3⟩, fun j hj => (hb.block _ (by omega)).trans (h.wrk j hj), h.below.trans (hb.mono (by omega))⟩

/-- '==' and '!=' on two workers' addresses. -/
theorem info31 : ∃ j, Yba.prog.info? 31 = some j ∧ j.size ≠ 0 := by
  have h : (Yba.prog.info? 31).map (·.size) = some 2 := by kernel_rfl
  cases hq : Yba.prog.info? 31 with
  | none => rw [hq] at h; simp at h
  | some j => rw [hq] at h; exact ⟨j, rfl, by simp at h; omega⟩
theorem Zs.eql {N : Nat} {w0 w : World} (h : Zs N 9 w0 w) (a b : Nat) (ha : a < 9) (hb : b < 9) : (binOp .eql 23 (.pointer (some (wk N a))) (.pointer (some (wk N b)))).run Yba.prog w = .ok (.bool (a == b)) w := by
  obtain ⟨j, hj, hs⟩ := info31
  by_cases e : a = b
  · subst e; rw [run_eql_ptr_same w _ Yba.underlying23 hj]; simp
  · rw [run_eql_ptr_other w Yba.underlying23 hj hs (by simp only [wk, ne_eq, Addr.mk.injEq]; omega) (h.wrk a ha) (h.wrk b hb)]; simp [e]

/-- The row of workers: the first k places are filled. -/
structure Ws (N R n k : Nat) (f : Nat → Nat) (w0 w : World) : Prop where
  row : ∃ cs : Array Value, w.heap[R]? = some (.cells cs 23 (0, 0)) ∧ cs.size = n ∧ ∀ j, j < k → cs[j]? = some (.pointer (some (wk N (f j))))
  below : Below R w0 w
  size : w.heap.size = R + 1

theorem Ws.start (N n : Nat) (f : Nat → Nat) (w0 : World) : Ws N w0.heap.size n 0 f w0 (w0.alloc (.cells (madeCells #[.pointer none] n) 23)) :=
  ⟨⟨_, heap_alloc_new _ _, size_madeCells _ _, fun j hj => by omega⟩, (Below.refl _ _).alloc (Nat.le_refl _) _, by simp⟩
theorem Ws.there {N R n k : Nat} {f : Nat → Nat} {w0 w : World} (h : Ws N R n k f w0 w) (j : Nat) (hj : j < n) : ∃ v, w.cell? ⟨R, j, none⟩ = some v := by
  obtain ⟨cs, h1, h2, _⟩ := h.row
  rw [cell_of_row _ _ _ _ _ _ h1]; exact ⟨_, Array.getElem?_eq_getElem (by omega)⟩
theorem Ws.free {N R n k : Nat} {f : Nat → Nat} {w0 w : World} (h : Ws N R n k f w0 w) (j : Nat) : w.frozen? ⟨R, j, none⟩ = false := by
  obtain ⟨cs, h1, _, _⟩ := h.row
  exact frozen_of_row _ _ _ _ _ h1
theorem Ws.step {N R n k : Nat} {f : Nat → Nat} {w0 w : World} (h : Ws N R n k f w0 w) (hk : k < n) : Ws N R n (k + 1) f w0 (w.setCell ⟨R, k, none⟩ (.pointer (some (wk N (f k))))) := by
  obtain ⟨cs, h1, h2, h3⟩ := h.row
  refine ⟨⟨cs.setIfInBounds k (.pointer (some (wk N (f k)))), heap_setCell_same _ R k cs 23 _ h1, by simpa using h2, fun j hj => ?_⟩, h.below.setCell (p := ⟨R, k, none⟩) (Nat.le_refl _) _, by simpa [World.setCell] using h.size⟩
  by_cases e : j = k
  · subst e; simp [h2, hk]
  · rw [Array.getElem?_setIfInBounds_ne (by omega)]; exact h3 j (by omega)

theorem info23b : (Yba.prog.info? 23).map (fun i => (i.zero, i.size, i.bytes)) = some (some (.pointer none), 1, 8) := by kernel_rfl
theorem info3b : (Yba.prog.info? 3).map (fun i => (i.zero, i.size, i.bytes)) = some (some (.int .i64 0), 1, 8) := by kernel_rfl

/-! ### The plain part: the workers' numbers, and what the law's own loop keeps of them -/
def kv (xv : Nat → Nat) (n : Nat) : List Nat := (List.range n).map fun i => xv i % 8
def enc3 (k : Nat) : Value := .int .i64 (k : Int)
theorem kv_len (xv : Nat → Nat) (n : Nat) : (kv xv n).length = n := by simp [kv]
theorem kv_at (xv : Nat → Nat) (n i : Nat) (h : i < (kv xv n).length) : (kv xv n)[i] = xv i % 8 := by simp [kv]
theorem erase_len (l : List Nat) (t : Nat) : (l.erase t).length ≤ l.length := List.length_erase_le
theorem kv_take (xv : Nat → Nat) (n k : Nat) (h : k < n) : (kv xv n).take (k + 1) = (kv xv n).take k ++ [xv k % 8] := by
  rw [List.take_succ_eq_append_getElem (by rw [kv_len]; exact h), kv_at]
theorem kv_step (xv : Nat → Nat) (n k t : Nat) (h : k < n) :
    (((kv xv n).take k).contains t = true → ((kv xv n).take (k + 1)).contains t = true ∧ ((kv xv n).take (k + 1)).erase t = ((kv xv n).take k).erase t ++ [xv k % 8]) ∧
    (((kv xv n).take k).contains t = false → xv k % 8 = t → ((kv xv n).take (k + 1)).contains t = true ∧ ((kv xv n).take (k + 1)).erase t = ((kv xv n).take k).erase t) ∧
    (((kv xv n).take k).contains t = false → xv k % 8 ≠ t → ((kv xv n).take (k + 1)).contains t = false ∧ ((kv xv n).take (k + 1)).erase t = ((kv xv n).take k).erase t ++ [xv k % 8]) := by
  rw [kv_take xv n k h]
  generalize (kv xv n).take k = l
  generalize xv k % 8 = a
  refine ⟨fun h1 => ?_, fun h1 h2 => ?_, fun h1 h2 => ?_⟩
  · have hm : t ∈ l := by simpa using h1
    exact ⟨by simp [hm], by rw [List.erase_append_left _ hm]⟩
  · subst h2
    have hm : a ∉ l := by simpa using h1
    exact ⟨by simp, by rw [List.erase_append_right _ hm, List.erase_of_not_mem hm]; simp⟩
  · have hm : t ∉ l := by simpa using h1
    refine ⟨by simp [hm]; omega, ?_⟩
    rw [List.erase_append_right _ hm, List.erase_of_not_mem hm, List.erase_of_not_mem (by simp; omega)]

theorem grow3 {B : Nat} {w wr w1 : World} {v v' : Value} {M : List Nat} {a : Nat} {o : Obj} (hown : wr.ownsRow B 3 1 v M.length (M.map enc3)) (hbel : Below B w wr)
    (hown1 : w1.ownsRow B 3 1 v' (M.length + 1) (M.map enc3 ++ [enc3 a])) (hg : (wr.alloc o).grownBy w1 v.ownBlock) (hB : B ≤ wr.heap.size := by first | assumption | exact Below.size (by assumption)) :
    w1.ownsRow B 3 1 v' (M ++ [a]).length ((M ++ [a]).map enc3) ∧ Below B w w1 := by
  refine ⟨by rw [List.map_append, List.length_append]; exact hown1, ?_⟩
  exact Below.grown (hbel.alloc hB o) hg (by simp; omega) (fun k e => (hown.lt k e).1)

theorem ne23 (a : Addr) (w : World) : (binOp .neq 23 (.pointer (some a)) (.pointer (some a))).run Yba.prog w = .ok (.bool false) w := by
  obtain ⟨j, hj, _⟩ := info31
  exact Lib.run_neq_ptr_same w a Yba.underlying23 hj

/-- What the law reads behind leave. -/
structure Done (N R DB cap : Nat) (ks : List Nat) (w5 w' : World) : Prop where
  drv : w'.cell? ⟨DB + 1, 20, none⟩ = some (.pointer (some ⟨DB, 0, none⟩))
  c6 : w'.cell? ⟨DB, 6, none⟩ = some (.int .i64 3)
  c7 : w'.cell? ⟨DB, 7, none⟩ = some (.slice none 0 0)
  c8 : w'.cell? ⟨DB, 8, none⟩ = some (.int .i64 0)
  c9 : w'.cell? ⟨DB, 9, none⟩ = some (.slice (some ⟨R, 0, none⟩) ks.length cap)
  c10 : w'.cell? ⟨DB, 10, none⟩ = some (.int .i64 0)
  row : ∀ i (h : i < ks.length), w'.cell? ⟨R, i, none⟩ = some (.pointer (some (wk N ks[i])))
  blk : ∀ k, k < w5.heap.size → k ≠ R → w'.heap[k]? = w5.heap[k]?
  size : w'.heap.size = w5.heap.size + 2
  os : w'.os = w5.os
  tape : w'.tape = w5.tape
  output : w'.output = w5.output

theorem Done.below {N R DB cap : Nat} {ks : List Nat} {w5 w' : World} (h : Done N R DB cap ks w5 w') (hR : R ≤ w5.heap.size) : Below R w5 w' :=
  ⟨h.os, h.tape, h.output, by rw [h.size]; omega, fun k hk => h.blk k (by omega) (by omega)⟩
theorem Done.want {N R DB cap B : Nat} {ks : List Nat} {w5 w' : World} (h : Done N R DB cap ks w5 w') (hB : R < B) {v : Value} {n : Nat} {xs : List Value} (ho : w5.ownsRow B 3 1 v n xs) : w'.ownsRow B 3 1 v n xs := by
  refine ⟨ho.1, ?_⟩
  rcases ho.2 with h2 | ⟨g, cp, cur, rfl, hg, hh, r⟩
  · exact .inl h2
  · exact .inr ⟨g, cp, cur, rfl, hg, (h.blk g (lt_of_block hh) (by omega)).trans hh, r⟩
/-- The law's list of numbers, as a slice. -/
theorem want_view {B : Nat} {w : World} {v : Value} {M : List Nat} (ho : w.ownsRow B 3 1 v M.length (M.map enc3)) :
    ∃ ao cw, v = .slice ao M.length cw ∧ ∀ i (h : i < M.length), ∃ g, ao = some ⟨g, 0, none⟩ ∧ g < w.heap.size ∧ w.cell? ⟨g, i, none⟩ = some (.int .i64 (M[i] : Int)) := by
  rcases ho.2 with ⟨rfl, h0⟩ | ⟨g, cp, cur, rfl, hg, hh, _, _, _, ht⟩
  · exact ⟨none, 0, by rw [h0], fun i h => by omega⟩
  · refine ⟨some ⟨g, 0, none⟩, cp, rfl, fun i h => ⟨g, rfl, lt_of_block hh, ?_⟩⟩
    rw [cell_of_row _ _ _ _ _ _ hh]
    have h1 : (M.map enc3)[i]? = some (enc3 M[i]) := by simp [h]
    rw [← ht, List.getElem?_take_of_lt (by omega)] at h1
    simpa [enc3] using h1

theorem leave_in (N R cap t : Nat) (ks : List Nat) (w w5 : World) (hz : Zs N 9 w w5) (hrow : ∀ i (h : i < ks.length), w5.cell? ⟨R, i, none⟩ = some (.pointer (some (wk N ks[i]))) ∧ w5.frozen? ⟨R, i, none⟩ = false)
    (ht : t < 9) (hn : ks.length ≤ 1024) (hcap : ks.length ≤ cap) (hm : cap ≤ 9223372036854775807) (hR : R < w5.heap.size) (hk : ∀ i (h : i < ks.length), ks[i] < 9) :
    Calls Yba.prog 6 #[.pointer (some ⟨w5.heap.size + 1, 0, none⟩), .pointer (some (wk N t))] ((w5.alloc (.cells #[.int .u64 0, .int .i64 0, .pointer none, .int .i64 0, .int .i64 0, .chan none, .int .i64 3, .slice none 0 0, .int .i64 0, .slice (some ⟨R, 0, none⟩) ks.length cap, .int .i64 0, .nilIface, .int .u32 0, .int .u32 0, .int .u64 0, .pointer none, .pointer none, .int .u64 0] 56)).alloc (.cells #[.int .i64 0, .int .i64 0, .nilFunc, .int .i64 0, .int .i32 0, .int .u32 0, .int .i64 0, .int .i64 0, .int .i64 0, .slice none 0 0, .pointer none, .pointer none, .int .i64 0, .pointer none, .int .i64 0, .int .u64 0, .int .u64 0, .int .u64 0, .int .u64 0, .bool false, .pointer (some ⟨w5.heap.size, 0, none⟩), .slice none 0 0] 70)) fun e w' => e = .returned (.tuple #[]) ∧ Done N R w5.heap.size cap (ks.erase t) w5 w' := by
  have hbel : Below w5.heap.size w5 ((w5.alloc (.cells #[.int .u64 0, .int .i64 0, .pointer none, .int .i64 0, .int .i64 0, .chan none, .int .i64 3, .slice none 0 0, .int .i64 0, .slice (some ⟨R, 0, none⟩) ks.length cap, .int .i64 0, .nilIface, .int .u32 0, .int .u32 0, .int .u64 0, .pointer none, .pointer none, .int .u64 0] 56)).alloc (.cells #[.int .i64 0, .int .i64 0, .nilFunc, .int .i64 0, .int .i32 0, .int .u32 0, .int .i64 0, .int .i64 0, .int .i64 0, .slice none 0 0, .pointer none, .pointer none, .int .i64 0, .pointer none, .int .i64 0, .int .u64 0, .int .u64 0, .int .u64 0, .int .u64 0, .bool false, .pointer (some ⟨w5.heap.size, 0, none⟩), .slice none 0 0] 70)) := ((Below.refl _ _).alloc (Nat.le_refl _) _).alloc (by simp) _
  have hz' := hz.kept (hbel.mono (by have := hz.size; omega))
  have h2 := heap_alloc2_new w5 (.cells #[.int .u64 0, .int .i64 0, .pointer none, .int .i64 0, .int .i64 0, .chan none, .int .i64 3, .slice none 0 0, .int .i64 0, .slice (some ⟨R, 0, none⟩) ks.length cap, .int .i64 0, .nilIface, .int .u32 0, .int .u32 0, .int .u64 0, .pointer none, .pointer none, .int .u64 0] 56) (.cells #[.int .i64 0, .int .i64 0, .nilFunc, .int .i64 0, .int .i32 0, .int .u32 0, .int .i64 0, .int .i64 0, .int .i64 0, .slice none 0 0, .pointer none, .pointer none, .int .i64 0, .pointer none, .int .i64 0, .int .u64 0, .int .u64 0, .int .u64 0, .int .u64 0, .bool false, .pointer (some ⟨w5.heap.size, 0, none⟩), .slice none 0 0] 70)
  have h1 := heap_alloc2_old w5 (.cells #[.int .u64 0, .int .i64 0, .pointer none, .int .i64 0, .int .i64 0, .chan none, .int .i64 3, .slice none 0 0, .int .i64 0, .slice (some ⟨R, 0, none⟩) ks.length cap, .int .i64 0, .nilIface, .int .u32 0, .int .u32 0, .int .u64 0, .pointer none, .pointer none, .int .u64 0] 56) (.cells #[.int .i64 0, .int .i64 0, .nilFunc, .int .i64 0, .int .i32 0, .int .u32 0, .int .i64 0, .int .i64 0, .int .i64 0, .slice none 0 0, .pointer none, .pointer none, .int .i64 0, .pointer none, .int .i64 0, .int .u64 0, .int .u64 0, .int .u64 0, .int .u64 0, .bool false, .pointer (some ⟨w5.heap.size, 0, none⟩), .slice none 0 0] 70)
  have hsz : ((w5.alloc (.cells #[.int .u64 0, .int .i64 0, .pointer none, .int .i64 0, .int .i64 0, .chan none, .int .i64 3, .slice none 0 0, .int .i64 0, .slice (some ⟨R, 0, none⟩) ks.length cap, .int .i64 0, .nilIface, .int .u32 0, .int .u32 0, .int .u64 0, .pointer none, .pointer none, .int .u64 0] 56)).alloc (.cells #[.int .i64 0, .int .i64 0, .nilFunc, .int .i64 0, .int .i32 0, .int .u32 0, .int .i64 0, .int .i64 0, .int .i64 0, .slice none 0 0, .pointer none, .pointer none, .int .i64 0, .pointer none, .int .i64 0, .int .u64 0, .int .u64 0, .int .u64 0, .int .u64 0, .bool false, .pointer (some ⟨w5.heap.size, 0, none⟩), .slice none 0 0] 70)).heap.size = w5.heap.size + 2 := by simp
  generalize (w5.alloc (.cells #[.int .u64 0, .int .i64 0, .pointer none, .int .i64 0, .int .i64 0, .chan none, .int .i64 3, .slice none 0 0, .int .i64 0, .slice (some ⟨R, 0, none⟩) ks.length cap, .int .i64 0, .nilIface, .int .u32 0, .int .u32 0, .int .u64 0, .pointer none, .pointer none, .int .u64 0] 56)).alloc (.cells #[.int .i64 0, .int .i64 0, .nilFunc, .int .i64 0, .int .i32 0, .int .u32 0, .int .i64 0, .int .i64 0, .int .i64 0, .slice none 0 0, .pointer none, .pointer none, .int .i64 0, .pointer none, .int .i64 0, .int .u64 0, .int .u64 0, .int .u64 0, .int .u64 0, .bool false, .pointer (some ⟨w5.heap.size, 0, none⟩), .slice none 0 0] 70) = W at *
  refine (leave_any (w5.heap.size + 1) w5.heap.size N R cap t ks W ?_ ?_ (frozen_of_row _ _ _ _ _ h1) (by omega) (fun i h => ?_) (fun i h => hz'.eql t ks[i] ht (hk i h)) hn hcap hm).mono ?_
  · rw [cell_of_row _ _ _ _ _ _ h2]; rfl
  · rw [cell_of_row _ _ _ _ _ _ h1]; rfl
  · exact ⟨(hbel.cell (p := ⟨R, i, none⟩) hR).trans (hrow i h).1, (hbel.frozen (p := ⟨R, i, none⟩) hR).trans (hrow i h).2⟩
  · rintro e w' ⟨rfl, hl⟩
    have hc : ∀ j, (⟨w5.heap.size, j, none⟩ : Addr) ≠ ⟨w5.heap.size, 9, none⟩ → w'.cell? ⟨w5.heap.size, j, none⟩ = W.cell? ⟨w5.heap.size, j, none⟩ := fun j hj => hl.oth _ (by show w5.heap.size ≠ R; omega) hj
    refine ⟨rfl, ?_, ?_, ?_, ?_, hl.fld, ?_, hl.row, fun k hk hkR => ?_, by rw [hl.size, hsz], ?_, ?_, ?_⟩
    · rw [hl.oth _ (by show w5.heap.size + 1 ≠ R; omega) (by simp), cell_of_row _ _ _ _ _ _ h2]; rfl
    · rw [hc 6 (by simp), cell_of_row _ _ _ _ _ _ h1]; rfl
    · rw [hc 7 (by simp), cell_of_row _ _ _ _ _ _ h1]; rfl
    · rw [hc 8 (by simp), cell_of_row _ _ _ _ _ _ h1]; rfl
    · rw [hc 10 (by simp), cell_of_row _ _ _ _ _ _ h1]; rfl
    · rw [hl.blk k hkR (by omega)]; exact hbel.block k hk
    · exact hl.os.trans hbel.os
    · exact hl.tape.trans hbel.tape
    · exact hl.output.trans hbel.output

set_option maxHeartbeats 1000000 in
set_option maxRecDepth 100000 in
theorem removes (a0 : Option Addr) (n cap0 : Nat) (xv : Nat → Nat) (p : Nat) (w : World) (hn : n ≤ 1024) (hx : ∀ i, i < n → xv i ≤ 255) (hp : p ≤ 255)
    (hc : ∀ i, i < n → ∃ b off, a0 = some ⟨b, off, none⟩ ∧ b < w.heap.size ∧ w.cell? ⟨b, off + i, none⟩ = some (.int .u8 (xv i))) :
    Calls Yba.prog 3 #[.slice a0 n cap0, .int .u8 p] w fun e w' => e = .returned (.bool true) ∧ Below w.heap.size w w' := by
  have hd : decide ((1024 : Int) < (n : Int)) = false := by simp; omega
  have hmk := run_make_row' (P := Yba.prog) 32 23 (.pointer none) 8 Yba.underlying32 info23b rfl .i64 .i64 n (by omega) (by omega)
  go_enter Yba.func3, Yba.ntmps3
  go_wp2_with fail
  go_loopw [6] (fun i wr => ∃ k : Nat, k ≤ 9 ∧ i = .int .i64 k ∧ wr.heap.size = w.heap.size + 1 + k ∧ Zs w.heap.size k w wr) (fun i _ => 9 - (intOf i).toNat)
  case atStart => exact ⟨0, by omega, rfl, by simp, Zs.start w _ rfl⟩
  case round =>
    obtain ⟨k, hk, rfl, hsz, hz⟩ := hrel
    by_cases hk9 : k < 9
    · obtain ⟨v, hv⟩ := hz.there k hk9
      have hst := hz.step hk9 hsz
      have hfr := hz.free k
      have ha1 : ∀ o, (wr.alloc o).cell? ⟨w.heap.size, k, none⟩ = some v := fun o => (World.cell?_alloc_past _ _ _ (by omega)).trans hv
      have ha2 : ∀ o, (wr.alloc o).frozen? ⟨w.heap.size, k, none⟩ = false := fun o => (World.frozen?_alloc_past _ _ _ (by omega)).trans hfr
      have HST := hide hst
      clear hst hz
      go_wp2_with fail
      go_roundw
      case rel => exact ⟨k + 1, by omega, by go_num, by simp [World.setCell]; omega, unhide HST⟩
      case measure => simp [intOf]; omega
    · have hk' : k = 9 := by omega
      subst hk'
      obtain ⟨w1, hw1⟩ : ∃ w1, w1 = wr := ⟨_, rfl⟩
      subst hw1
      have hb1 := hz.below
      have HZ := hide hz
      have hge : w.heap.size + 10 ≤ w1.heap.size := by omega
      clear hz hsz
      go_wp2_with fail
      go_loopw [35] (fun i wr => ∃ k : Nat, k ≤ n ∧ i = .int .i64 k ∧ Ws w.heap.size w1.heap.size n k (fun i => xv i % 8) w1 wr) (fun i _ => n - (intOf i).toNat)
      case atStart => exact ⟨0, by omega, rfl, Ws.start _ _ _ _⟩
      case round =>
        obtain ⟨k, hk, rfl, hws⟩ := hrel
        by_cases hkn : k < n
        · have hxk := hx k hkn
          obtain ⟨b, off, hao, hb, hck⟩ := hc k hkn
          have c0 := ((hb1.trans (hws.below.mono (by omega))).cell (p := ⟨b, off + k, none⟩) hb).trans hck
          clear hck
          have c1 := (hws.below.cell (p := ⟨w.heap.size, xv k % 8, none⟩) (by show w.heap.size < _; omega)).trans ((unhide HZ).cell (xv k % 8) (by omega))
          obtain ⟨v, c2⟩ := hws.there k hkn
          have c3 := hws.free k
          have HW := hide (hws.step hkn)
          clear hws hx hc
          generalize xv k = x at *
          subst hao
          go_wp2_with fail
          go_roundw
          case rel => exact ⟨k + 1, by omega, by go_num, unhide HW⟩
          case measure => simp [intOf]; omega
        · have hk' : n = k := by omega
          subst hk'
          obtain ⟨w2, hw2⟩ : ∃ w2, w2 = wr := ⟨_, rfl⟩
          subst hw2
          have HW := hide hws
          clear hws
          obtain ⟨i3, hi3, hz30, hz31, hz32⟩ := info_parts info3b
          go_wp2_with (at_make; refine wpList_make_own _ rfl _ _ 33 rfl w2.heap.size 3 i3 _ 1 Yba.underlying33 hi3 hz30 hz31 .i64 .i64 _ n rfl rfl rfl (by rw [hz32]; omega) (by unfold maxLen; omega) (Nat.le_refl _) ?_; intro w3 hown3 hgr3)
          have hb3 : Below w2.heap.size w2 w3 := (Below.refl _ _).grown hgr3 (Nat.le_refl _) (fun k e => by cases e)
          clear hgr3
          go_loopw [11, 12, 57] (fun v rm i wr => ∃ k : Nat, k ≤ n ∧ i = .int .i64 k ∧ rm = .bool (((kv xv n).take k).contains (p % 9)) ∧ wr.ownsRow w2.heap.size 3 1 v (((kv xv n).take k).erase (p % 9)).length ((((kv xv n).take k).erase (p % 9)).map enc3) ∧ Below w2.heap.size w2 wr) (fun _ _ i _ => n - (intOf i).toNat)
          case atStart => exact ⟨0, by omega, rfl, rfl, hown3, hb3⟩
          case round =>
            obtain ⟨k, hk, rfl, rfl, hown, hbr⟩ := hrel
            by_cases hkn : k < n
            · have hxk := hx k hkn
              have hw2 := (unhide HW).below.size
              obtain ⟨b, off, hao, hb, hck⟩ := hc k hkn
              have c0 := (((hb1.trans ((unhide HW).below.mono (by omega))).trans (hbr.mono (by omega))).cell (p := ⟨b, off + k, none⟩) hb).trans hck
              clear hck
              have hlen : (((kv xv n).take k).erase (p % 9)).length ≤ 1024 := Nat.le_trans (erase_len _ _) (by rw [List.length_take]; omega)
              have st := kv_step xv n k (p % 9) hkn
              clear hc
              generalize xv k = x at *
              subst hao
              by_cases hrm : ((kv xv n).take k).contains (p % 9) = true
              · have HT := hide (st.1 hrm)
                have HR := hide hrm
                clear st
                rw [hrm]
                generalize ((kv xv n).take k).erase (p % 9) = M at *
                go_wp2_with (at_builtin; refine wpList_append_lies _ rfl (.tmp 71) (.tmp 73) 33 rfl w2.heap.size 3 i3 _ 1 8 Yba.underlying33 hi3 hz30 hz31 hz32 rfl (by omega) u11 M.length (M.map enc3) rfl (hown.alloc _) ⟨wr.heap.size, 0, none⟩ 1 1 [enc3 (x % 8)] rfl rfl (World.news_of_block (cs := #[enc3 (x % 8)]) (heap_alloc_new wr _)) (by intro u hu; simp at hu; subst hu; rfl) (by omega) (by unfold maxLen; omega) (by omega) (by have := hbr.size; simp; omega) (wr.heap.size + 1) (by simp) ?_; intro g cap w4 hown1 hgrow hat hlt1; clear hat)
                go_roundw
                case rel => exact ⟨k + 1, by omega, by go_num, by rw [(unhide HT).1], by rw [(unhide HT).2]; exact (grow3 hown hbr hown1 hgrow).1, (grow3 hown hbr hown1 hgrow).2⟩
                case measure => simp [intOf]; omega
              · have hrm' : ((kv xv n).take k).contains (p % 9) = false := by simpa using hrm
                by_cases hxt : x % 8 = p % 9
                · have HT := hide (st.2.1 hrm' hxt)
                  have hq : (((x : Int) % 8) == ((p : Int) % 9)) = true := beq_iff_eq.2 (by omega)
                  clear st hrm hxt
                  rw [hrm']
                  generalize ((kv xv n).take k).erase (p % 9) = M at *
                  go_wp2_with fail
                  go_roundw
                  case rel => exact ⟨k + 1, by omega, by go_num, by rw [(unhide HT).1], by rw [(unhide HT).2]; exact hown, hbr⟩
                  case measure => simp [intOf]; omega
                · have HT := hide (st.2.2 hrm' hxt)
                  have hq : (((x : Int) % 8) == ((p : Int) % 9)) = false := beq_eq_false_iff_ne.2 (by omega)
                  clear st hrm hxt
                  rw [hrm']
                  generalize ((kv xv n).take k).erase (p % 9) = M at *
                  go_wp2_with (at_builtin; refine wpList_append_lies _ rfl (.tmp 71) (.tmp 73) 33 rfl w2.heap.size 3 i3 _ 1 8 Yba.underlying33 hi3 hz30 hz31 hz32 rfl (by omega) u11 M.length (M.map enc3) rfl (hown.alloc _) ⟨wr.heap.size, 0, none⟩ 1 1 [enc3 (x % 8)] rfl rfl (World.news_of_block (cs := #[enc3 (x % 8)]) (heap_alloc_new wr _)) (by intro u hu; simp at hu; subst hu; rfl) (by omega) (by unfold maxLen; omega) (by omega) (by have := hbr.size; simp; omega) (wr.heap.size + 1) (by simp) ?_; intro g cap w4 hown1 hgrow hat hlt1; clear hat)
                  go_roundw
                  case rel => exact ⟨k + 1, by omega, by go_num, by rw [(unhide HT).1], by rw [(unhide HT).2]; exact (grow3 hown hbr hown1 hgrow).1, (grow3 hown hbr hown1 hgrow).2⟩
                  case measure => simp [intOf]; omega
            · have hk' : n = k := by omega
              subst hk'
              obtain ⟨w5, hw5⟩ : ∃ w5, w5 = wr := ⟨_, rfl⟩
              subst hw5
              rw [List.take_of_length_le (Nat.le_of_eq (kv_len xv n))] at hown ⊢
              have hnn : (kv xv n).length = n := kv_len xv n
              have hZ5 := (unhide HZ).kept (w' := w5) (((unhide HW).below.mono hge).trans (hbr.mono (by have := (unhide HW).below.size; omega)))
              have ct := hZ5.cell (p % 9) (by omega)
              have ha1 : ∀ o1 o2, ((w5.alloc o1).alloc o2).cell? ⟨w.heap.size, p % 9, none⟩ = some (.pointer (some (wk w.heap.size (p % 9)))) := fun o1 o2 => by rw [World.cell?_alloc_past _ _ _ (by have := hZ5.size; simp; omega), World.cell?_alloc_past _ _ _ (by have := hZ5.size; show w.heap.size < _; omega)]; exact ct
              have hR := (unhide HW).size
              have hrow := (unhide HW).row
              have hzs5 := hZ5.size
              have hwb : w1.heap.size < w5.heap.size := by have := hbr.size; omega
              have hRow : ∀ i (h : i < (kv xv n).length), w5.cell? ⟨w1.heap.size, i, none⟩ = some (.pointer (some (wk w.heap.size (kv xv n)[i]))) ∧ w5.frozen? ⟨w1.heap.size, i, none⟩ = false := by
                obtain ⟨cs, r1, r2, r3⟩ := hrow
                have r1' : w5.heap[w1.heap.size]? = some (.cells cs 23 (0, 0)) := (hbr.block _ (by omega)).trans r1
                intro i hi
                rw [cell_of_row _ _ _ _ _ _ r1', frozen_of_row _ _ _ _ _ r1', kv_at]
                exact ⟨r3 i (by rw [kv_len] at hi; exact hi), rfl⟩
              have HL := hide (leave_in w.heap.size w1.heap.size n (p % 9) (kv xv n) w w5 hZ5 hRow (by omega) (by rw [kv_len]; omega) (Nat.le_of_eq (kv_len _ _)) (by omega) hwb (fun i hi => by rw [kv_at]; omega))
              have HB5 := hide (((hb1.trans ((unhide HW).below.mono (by omega))).trans (hbr.mono (by have := (unhide HW).below.size; omega))))
              have hB2 : w1.heap.size < w2.heap.size := by omega
              obtain ⟨M, hM⟩ : ∃ M, (kv xv n).erase (p % 9) = M := ⟨_, rfl⟩
              have hMk : ∀ i (h : i < M.length), M[i] < 9 := fun i h => by
                have hmem : M[i] ∈ (kv xv n).erase (p % 9) := by rw [hM]; exact List.getElem_mem h
                have := List.mem_of_mem_erase hmem
                simp only [kv, List.mem_map] at this
                obtain ⟨a, _, e⟩ := this
                omega
              have hMl : M.length ≤ 1024 := by rw [← hM]; exact Nat.le_trans (erase_len _ _) (by rw [kv_len]; exact hn)
              rw [hnn] at HL
              rw [hM] at HL hown
              obtain ⟨ao, cw, hu, _⟩ := want_view hown
              subst hu
              have HO := hide hown
              have HZ5 := hide hZ5
              have Hk9 := hide hMk
              clear hx hc hR hrow hRow hown hown3 hb3 hZ5 hMk hM hnn
              go_wp2_with (go_at_call 6; refine (unhide HL).mono ?_; rintro e w7 ⟨rfl, hdn⟩; have d1 := hdn.drv; have d2 := hdn.c9)
              have hb7 := hdn.below (Nat.le_of_lt hwb)
              have hZ7 := (unhide HZ5).kept (hb7.mono hge)
              have hO7 := hdn.want hB2 (unhide HO)
              have hBel7 : Below w.heap.size w w7 := (unhide HB5).trans (hb7.mono (by omega))
              have hs7 := hdn.size
              obtain ⟨ao', cw', hu, hv7⟩ := want_view hO7
              simp only [Value.slice.injEq] at hu
              obtain ⟨hu1, _, hu2⟩ := hu
              subst hu1 hu2
              have HV := hide hv7
              have HD := hide hdn
              have HZ7 := hide hZ7
              have hge7 : w.heap.size + 10 ≤ w7.heap.size := by have := hb7.size; omega
              have hR7 : w1.heap.size < w7.heap.size := by have := hb7.size; omega
              have hD7 : w5.heap.size + 1 < w7.heap.size := by omega
              have h23 := ne23
              clear HL HZ HW HZ5 HO hb7 hdn hO7 hv7 hZ7 d1 d2 hs7 hb1 hbr ct hmk
              go_loopw [18] (fun i wr => ∃ k : Nat, k ≤ M.length ∧ i = .int .i64 k ∧ Below w7.heap.size w7 wr) (fun i _ => M.length - (intOf i).toNat)
              case atStart => exact ⟨0, by omega, rfl, Below.refl _ _⟩
              case round =>
                obtain ⟨k, hk, rfl, hb8⟩ := hrel
                by_cases hkM : k < M.length
                · obtain ⟨g, hao, hg, q1⟩ := unhide HV k hkM
                  have ha9 := unhide Hk9 k hkM
                  have q2 := (hb8.cell (p := ⟨w1.heap.size, k, none⟩) hR7).trans ((unhide HD).row k hkM)
                  have q3 := (hb8.cell (p := ⟨g, k, none⟩) hg).trans q1
                  have q4 := (hb8.cell (p := ⟨w.heap.size, M[k], none⟩) (by show w.heap.size < _; omega)).trans ((unhide HZ7).cell M[k] ha9)
                  clear q1
                  generalize M[k] = a at *
                  subst hao
                  have e0 : (0 : Int) ≤ (k : Int) := by omega
                  have e1 : (k : Int) < (M.length : Int) := by omega
                  have e2 : (0 : Int) ≤ (a : Int) := by omega
                  have e3 : (a : Int) < 9 := by omega
                  go_wp2_with fail
                  go_region
                  all_goals go_wp2
                  all_goals
                    go_roundw
                    case rel => exact ⟨k + 1, by omega, by go_num, hb8.drew⟩
                    case measure => simp [intOf]; omega
                · have f1 := (hb8.cell (p := ⟨w5.heap.size + 1, 20, none⟩) (by show w5.heap.size + 1 < _; omega)).trans (unhide HD).drv
                  have f2 := (hb8.cell (p := ⟨w5.heap.size, 6, none⟩) (by show w5.heap.size < _; omega)).trans (unhide HD).c6
                  have f3 := (hb8.cell (p := ⟨w5.heap.size, 7, none⟩) (by show w5.heap.size < _; omega)).trans (unhide HD).c7
                  have f4 := (hb8.cell (p := ⟨w5.heap.size, 8, none⟩) (by show w5.heap.size < _; omega)).trans (unhide HD).c8
                  have f5 := (hb8.cell (p := ⟨w5.heap.size, 10, none⟩) (by show w5.heap.size < _; omega)).trans (unhide HD).c10
                  have f6 := (hb8.cell (p := ⟨w.heap.size, p % 9, none⟩) (by show w.heap.size < _; omega)).trans ((unhide HZ7).cell (p % 9) (by omega))
                  have f7 : wr.cell? ⟨w.heap.size + 1 + p % 9, 1, none⟩ = some (.bool false) := by
                    rw [cell_of_row wr (w.heap.size + 1 + p % 9) 1 _ 31 (0, 0) ((hb8.block _ (by omega)).trans ((unhide HZ7).wrk (p % 9) (by omega)))]; rfl
                  have hnil := fun w => Lib.run_eql_slice_nil (P := Yba.prog) w 42 64 none 0 0 0 0 Yba.underlying42
                  unfold wk at f6
                  go_wp2_with fail
                  go_ret
                  exact ⟨rfl, hBel7.trans (hb8.mono (by omega))⟩

set_option maxHeartbeats 1000000 in
set_option maxRecDepth 100000 in
theorem removes_long (a0 : Option Addr) (n cap0 : Nat) (p : Int) (w : World) (hn : 1024 < n) (hm : n ≤ 9223372036854775807) :
    Calls Yba.prog 3 #[.slice a0 n cap0, .int .u8 p] w fun e w' => e = .returned (.bool true) ∧ Below w.heap.size w w' := by
  go_enter Yba.func3, Yba.ntmps3
  go_wp2_with fail
  go_ret
  exact ⟨rfl, Below.refl _ _⟩

end Go.Proofs.Ybulkcyrq
