/-
  sync.Mutex's TryLock (8), the lock free.
-/
import Derived.Test.YbulkcyrqDoorLocks
import Derived.Conc.MuLone
import Derived.WalkKit
namespace Go.Proofs.YbulkcyrqDoor
open Go.RowKit Go.MuLone
set_option maxHeartbeats 400000 in
set_option maxRecDepth 100000 in
theorem trylock (b o : Nat) (w : World) (hc : w.cell? ⟨b, o, none⟩ = some (.int .i32 0)) (hz : w.frozen? ⟨b, o, none⟩ = false) :
    Calls Ybad.prog 8 #[.pointer (some ⟨b, o, none⟩)] w fun e w' => e = .returned (.bool true) ∧ w' = w.setCell ⟨b, o, none⟩ (.int .i32 1) := by
  have H := Ybad.muLib
  have hd : ∀ w, (callFunc 22 #[]).run Ybad.prog w = _ := disable H
  have he : ∀ w, (callFunc 23 #[]).run Ybad.prog w = _ := enable H
  have ha : ∀ a w, (callFunc 25 #[.pointer (some a)]).run Ybad.prog w = _ := acquire H
  have hcas : (callFunc 24 #[.pointer (some ⟨b, o, none⟩), .int .i32 0, .int .i32 1]).run Ybad.prog w = _ := run_call_cas_hit (P := Ybad.prog) H.f_cas32 (by kernel_rfl) (by kernel_rfl) (by kernel_rfl) .i32 (by kernel_rfl) (y := 1) hc hz
  have hc' : (w.setCell ⟨b, o, none⟩ (.int .i32 1)).cell? ⟨b, o, none⟩ = some (.int .i32 1) := by simp [go_sem, hc]
  have hcv : (convert 84 37 (.pointer (some ⟨b, o, none⟩))).run Ybad.prog (w.setCell ⟨b, o, none⟩ (.int .i32 1)) = _ := run_convert_to_unsafe (P := Ybad.prog) (src := 84) (dst := 37) H.underlying_tPIMutex H.underlying_tUP H.room_tIMutex hc'
  have hb0 : (bits .and .i32 0 5 != 0) = false := by decide
  go_enter Ybad.func8, Ybad.ntmps8
  go_wp2
  go_ret
  exact ⟨rfl, rfl⟩
end Go.Proofs.YbulkcyrqDoor
