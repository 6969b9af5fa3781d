/-
  recent's Put (13).
-/
import Derived.Test.YbulkcyuwDoorRec
namespace Go.Proofs.YbulkcyuwDoor
open Go.RowKit
attribute [local go_sem] run_store_float

theorem len_map (r ck : Nat) (L : List (Int × St × Nat)) (w : World) (h : MapAt r L ck w) (t : TypeId) : (Builtin.len_ #[65] t #[.map (some r)]).run Ybad.prog w = .ok (.int .i64 L.length) w := by
  unfold MapAt at h
  simp [Builtin.len_, run_underlying Ybad.underlying65, MapKept.run_getObj_map h, Result.andThen, goInt]

set_option maxHeartbeats 1000000 in
set_option maxRecDepth 100000 in
theorem put_any (M m1 m2 : Nat) (k : Int) (s : St) (L : List (Int × St × Nat)) (w : World) (h : RecAt M m1 m2 L w) (hL : L.length < 50000) (hM : M ≠ m1) :
    Calls Ybad.prog 13 #[.pointer (some ⟨M, 0, none⟩), .int .u32 k, acV s] w fun e w' => e = .returned (.tuple #[]) ∧ (∃ L', RecAt M m1 m2 L' w' ∧ (∀ k', lookL k' L' = if k' = k then some s else lookL k' L) ∧ L'.length ≤ L.length + 1) ∧ Grew (fun b => b = m1) w w' := by
  have c0 : ∀ o, (w.alloc o).cell? ⟨M, 0, none⟩ = some (.map (some m1)) := fun o => (Grew.alloc (Grew.refl (fun _ => False) w) o).cell (fun h => h) h.c0
  have c2 : ∀ o, (w.alloc o).cell? ⟨M, 2, none⟩ = some (.int .i64 50000) := fun o => (Grew.alloc (Grew.refl (fun _ => False) w) o).cell (fun h => h) h.c2
  obtain ⟨hm, ⟨k1, g1⟩, ⟨k2, g2⟩, hne⟩ := h
  have hlen : ∀ o t, (Builtin.len_ #[65] t #[.map (some m1)]).run Ybad.prog (w.alloc o) = .ok (.int .i64 L.length) (w.alloc o) := fun o t => len_map m1 k1 L _ (g1.alloc o) t
  have hlenN : ∀ o t n, (Builtin.len_ #[65] t #[.map (some m1)]).run Ybad.prog ((w.alloc o).drewN n) = .ok (.int .i64 L.length) ((w.alloc o).drewN n) := fun o t n => len_map m1 k1 L ((w.alloc o).drewN n) (g1.alloc o) t
  have hcmp : decide ((50000 : Int) ≤ (L.length : Int)) = false := by simp; omega
  have hput : ∀ o n, (Instr.mapUpdate 65 (.map (some m1)) (.int .u32 k) (acV s)).run Ybad.prog ((w.alloc o).drewN n) = .ok () (setMap ((w.alloc o).drewN n) m1 ((putL k s k1 L).map toE).toArray (putC k L k1)) := fun o n => run_put m1 k1 L k s _ (g1.alloc o)
  have hput1 : ∀ o n, (Instr.mapUpdate 65 (.map (some m1)) (.int .u32 k) (acV s)).run Ybad.prog ((w.alloc o).drewN n).drew = .ok () (setMap ((w.alloc o).drewN n).drew m1 ((putL k s k1 L).map toE).toArray (putC k L k1)) := fun o n => run_put m1 k1 L k s _ (g1.alloc o)
  have hput2 : ∀ o n, (Instr.mapUpdate 65 (.map (some m1)) (.int .u32 k) (acV s)).run Ybad.prog ((w.alloc o).drewN n).drew.drew = .ok () (setMap ((w.alloc o).drewN n).drew.drew m1 ((putL k s k1 L).map toE).toArray (putC k L k1)) := fun o n => run_put m1 k1 L k s _ (g1.alloc o)
  have hput3 : ∀ o n, (Instr.mapUpdate 65 (.map (some m1)) (.int .u32 k) (acV s)).run Ybad.prog ((w.alloc o).drewN n).drew.drew.drew = .ok () (setMap ((w.alloc o).drewN n).drew.drew.drew m1 ((putL k s k1 L).map toE).toArray (putC k L k1)) := fun o n => run_put m1 k1 L k s _ (g1.alloc o)
  generalize hES : ((putL k s k1 L).map toE).toArray = ES at hput hput1 hput2 hput3
  have HM := hide (And.intro hm (And.intro g1 (And.intro g2 hne)))
  clear hm g1 g2 hne
  obtain ⟨⟨t0, o0, la0, lo0, e0⟩, ⟨t1, o1, la1, lo1, e1⟩, ⟨fla, flo, ft, fc⟩⟩ := s
  simp only [acV, acA] at *
  go_enter Ybad.func13, Ybad.ntmps13
  go_wp2_with fail
  go_quiet (fail)
  go_wp2_with fail
  go_region
  all_goals go_wp2_with fail
  all_goals go_end0
  all_goals (
    obtain ⟨hm, g1, g2, hne⟩ := unhide HM
    have G := Grew.setMap (Grew.drew (Grew.drewN (Grew.alloc (Grew.refl (fun b => b = m1) w) (.cells #[.int .i64 t0, .bool o0, .int .u32 la0, .int .u32 lo0, .int .u8 e0, .int .i64 t1, .bool o1, .int .u32 la1, .int .u32 lo1, .int .u8 e1, .float .f64 fla, .float .f64 flo, .int .i64 ft, .int .u8 fc] 58)) nq)) m1 (fun _ => rfl) ES (putC k L k1)
    refine ⟨rfl, ⟨putL k ⟨⟨t0, o0, la0, lo0, e0⟩, ⟨t1, o1, la1, lo1, e1⟩, ⟨fla, flo, ft, fc⟩⟩ k1 L, ⟨(G.block M (heap_lt hm) hM).trans hm, ⟨putC k L k1, ?_⟩, ⟨k2, g2.grew G (Ne.symm hne)⟩, hne⟩, fun k' => look_put k k' _ k1 L, put_length k _ k1 L⟩, G⟩
    rw [← hES]
    exact setMap_at _ m1 k1 _ L _ (g1.alloc _))
end Go.Proofs.YbulkcyuwDoor
