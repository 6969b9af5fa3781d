/-
  recent.New (10), Get (11), Put (13).
-/
import Derived.Test.YbulkcyuwDoorMap
import Derived.Laws.ResultCell
namespace Go.Proofs.YbulkcyuwDoor
open Go.RowKit

/-- A float64 stored (the guide has the law for the other kinds). -/
theorem run_store_float {P : Program} {w : World} {a : Addr} {m : Mode} (k : FloatKind) (n : Nat) : (store a (.float k n) m).run P w = stored P w a (.float k n) m := run_store P w a _ m rfl
attribute [local go_sem] run_store_float

/-- The two generations, the second empty. -/
def RecAt (M m1 m2 : Nat) (L : List (Int × St × Nat)) (w : World) : Prop :=
  w.heap[M]? = some (.cells #[.map (some m1), .map (some m2), .int .i64 50000] 67) ∧ (∃ ck, MapAt m1 L ck w) ∧ (∃ ck, MapAt m2 [] ck w) ∧ m1 ≠ m2

theorem RecAt.c0 {M m1 m2 : Nat} {L : List (Int × St × Nat)} {w : World} (h : RecAt M m1 m2 L w) : w.cell? ⟨M, 0, none⟩ = some (.map (some m1)) := by simp [World.cell?, h.1]
theorem RecAt.c1 {M m1 m2 : Nat} {L : List (Int × St × Nat)} {w : World} (h : RecAt M m1 m2 L w) : w.cell? ⟨M, 1, none⟩ = some (.map (some m2)) := by simp [World.cell?, h.1]
theorem RecAt.c2 {M m1 m2 : Nat} {L : List (Int × St × Nat)} {w : World} (h : RecAt M m1 m2 L w) : w.cell? ⟨M, 2, none⟩ = some (.int .i64 50000) := by simp [World.cell?, h.1]
theorem RecAt.grew {S : Nat → Prop} {M m1 m2 : Nat} {L : List (Int × St × Nat)} {w w' : World} (h : RecAt M m1 m2 L w) (g : Grew S w w') (h1 : ¬ S M) (h2 : ¬ S m1) (h3 : ¬ S m2) : RecAt M m1 m2 L w' := by
  obtain ⟨a, ⟨c1, b1⟩, ⟨c2, b2⟩, hn⟩ := h
  exact ⟨(g.block M (heap_lt a) h1).trans a, ⟨c1, b1.grew g h2⟩, ⟨c2, b2.grew g h3⟩, hn⟩

set_option maxHeartbeats 1000000 in
set_option maxRecDepth 100000 in
theorem new_any (w : World) :
    Calls Ybad.prog 10 #[.int .i64 50000] w fun e w' => ∃ M m1 m2, e = .returned (.pointer (some ⟨M, 0, none⟩)) ∧ RecAt M m1 m2 [] w' ∧ w.heap.size ≤ M ∧ w.heap.size ≤ m1 ∧ w.heap.size ≤ m2 ∧ Grew (fun _ => False) w w' := by
  have hm := fun w => run_makeMap (P := Ybad.prog) 65 w
  go_enter Ybad.func10, Ybad.ntmps10
  go_wp2_with fail
  go_ret
  refine ⟨w.heap.size + 1 + 1, w.heap.size, w.heap.size + 1, rfl, ?_, by omega, by omega, by omega, Grew.alloc (Grew.alloc (Grew.alloc (Grew.refl _ _) _) _) _⟩
  refine ⟨?_, ⟨0, ?_⟩, ⟨0, ?_⟩, by omega⟩
  · have := alloc_last ((w.alloc (.map #[] 0)).alloc (.map #[] 0)) (.cells #[.map (some w.heap.size), .map (some (w.heap.size + 1)), .int .i64 50000] 67)
    rw [World.size_alloc, World.size_alloc] at this
    exact this
  · exact (alloc_old _ _ (by rw [World.size_alloc, World.size_alloc]; omega)).trans ((alloc_old _ _ (by rw [World.size_alloc]; omega)).trans (alloc_last w _))
  · have := alloc_last (w.alloc (.map #[] 0)) (.map #[] 0)
    rw [World.size_alloc] at this
    exact (alloc_old _ _ (by rw [World.size_alloc, World.size_alloc]; omega)).trans this

theorem MapAt.alloc {r ck : Nat} {L : List (Int × St × Nat)} {w : World} (h : MapAt r L ck w) (o : Obj) : MapAt r L ck (w.alloc o) := (alloc_old w o (heap_lt h)).trans h

set_option maxHeartbeats 1000000 in
set_option maxRecDepth 100000 in
theorem get_any (M m1 m2 : Nat) (k : Int) (L : List (Int × St × Nat)) (w : World) (h : RecAt M m1 m2 L w) :
    Calls Ybad.prog 11 #[.pointer (some ⟨M, 0, none⟩), .int .u32 k] w fun e w' => (∃ b, e = .returned (.tuple #[acV ((lookL k L).getD stZ), .bool b])) ∧ Grew (fun _ => False) w w' := by
  have c0 : ∀ o, (w.alloc o).cell? ⟨M, 0, none⟩ = some (.map (some m1)) := fun o => (Grew.alloc (Grew.refl (fun _ => False) w) o).cell (fun h => h) h.c0
  have c1 : ∀ o o', ((w.alloc o).alloc o').cell? ⟨M, 1, none⟩ = some (.map (some m2)) := fun o o' => (Grew.alloc (Grew.alloc (Grew.refl (fun _ => False) w) o) o').cell (fun h => h) h.c1
  obtain ⟨_, ⟨k1, g1⟩, ⟨k2, g2⟩, _⟩ := h
  cases hl : lookL k L with
  | some s =>
    have l1 : ∀ o, (Instr.lookup 65 (.map (some m1)) (.int .u32 k) true).run Ybad.prog (w.alloc o) = .ok (.tuple #[acV s, .bool true]) (w.alloc o) := by
      intro o
      have := run_look m1 k1 L k _ (g1.alloc o)
      rw [hl] at this; exact this
    clear g1 g2 hl
    simp only [Option.getD_some]
    obtain ⟨⟨t0, o0, la0, lo0, e0⟩, ⟨t1, o1, la1, lo1, e1⟩, ⟨fla, flo, ft, fc⟩⟩ := s
    simp only [acV, acA] at *
    go_enter Ybad.func11, Ybad.ntmps11
    go_wp2_with fail
    (try simp only [Exit.inBlock, Exit.then])
    refine bodyPost_ret (v := .tuple #[.agg #[.int .i64 t0, .bool o0, .int .u32 la0, .int .u32 lo0, .int .u8 e0, .int .i64 t1, .bool o1, .int .u32 la1, .int .u32 lo1, .int .u8 e1, .float .f64 fla, .float .f64 flo, .int .i64 ft, .int .u8 fc], .bool true]) ?_ rfl ⟨⟨true, rfl⟩, Grew.alloc (Grew.alloc (Grew.refl _ _) _) _⟩
    rw [results_cell_tmp rfl]
    go_simp
  | none =>
    have l1 : ∀ o, (Instr.lookup 65 (.map (some m1)) (.int .u32 k) true).run Ybad.prog (w.alloc o) = .ok (.tuple #[acV stZ, .bool false]) (w.alloc o) := by
      intro o
      have := run_look m1 k1 L k _ (g1.alloc o)
      rw [hl] at this; exact this
    have l2 : ∀ o o', (Instr.lookup 65 (.map (some m2)) (.int .u32 k) true).run Ybad.prog ((w.alloc o).alloc o') = .ok (.tuple #[acV stZ, .bool false]) ((w.alloc o).alloc o') := by
      intro o o'
      exact run_look m2 k2 [] k _ ((g2.alloc o).alloc o')
    clear g1 g2 hl
    simp only [Option.getD_none]
    simp only [acV, acA, stZ, frZ] at *
    go_enter Ybad.func11, Ybad.ntmps11
    go_wp2_with fail
    (try simp only [Exit.inBlock, Exit.then])
    refine bodyPost_ret (v := .tuple #[.agg #[.int .i64 0, .bool false, .int .u32 0, .int .u32 0, .int .u8 0, .int .i64 0, .bool false, .int .u32 0, .int .u32 0, .int .u8 0, .float .f64 0, .float .f64 0, .int .i64 0, .int .u8 0], .bool false]) ?_ rfl ⟨⟨false, rfl⟩, Grew.alloc (Grew.alloc (Grew.refl _ _) _) _⟩
    rw [results_cell_tmp rfl]
    go_simp

end Go.Proofs.YbulkcyuwDoor
