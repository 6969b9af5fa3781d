/-
  fmt.Errorf (27), cutShort (25), stop (26).
-/
import Derived.Test.YbulkcyvkFmtBase
namespace Go.Proofs.YbulkcyvkFmt
open Go.RowKit Go.Extern.Stop Go.Stop Go.Extern
set_option maxRecDepth 100000

set_option maxHeartbeats 1000000 in
theorem errorf (F : Interp) (s t : ByteArray) (a : Addr) (blk : Nat) (w : World) (hF : F.answers w.tape)
    (hc0 : w.cell? ⟨blk, 0, none⟩ = some (.iface 9 (.string s))) (hc1 : w.cell? ⟨blk, 1, none⟩ = some (.iface 81 (.pointer (some a)))) (hs : w.cell? a = some (.string t)) :
    Calls Ybaf.prog 27 #[.string badText, .slice (some ⟨blk, 0, none⟩) 2 2] w fun e w' =>
      e = .returned (.iface 113 (.pointer (some ⟨w.heap.size, 0, none⟩))) ∧ ∃ tx, (w.alloc (.cells #[.string tx, .iface 81 (.pointer (some a))] 175)).drew = w' := by
  have hF' := hF
  unfold Interp.answers at hF'
  have hop := Ybaf.opPlain81_119w "fmt.errorf" a t w hs
  go_enter Ybaf.func27, Ybaf.ntmps27
  go_wp2
  apply rows_value Ybaf.nextTurns
  case hr =>
    go_simp
    exact ⟨rfl, rfl⟩
  case h =>
    go_wp2
    go_ret
    exact ⟨rfl, _, rfl⟩

set_option maxHeartbeats 1000000 in
theorem cutShort (F : Interp) (s : ByteArray) (x y : Int) (aE : Addr) (Rd blk : Nat) (old : Value) (w : World) (hF : F.answers w.tape)
    (hc0 : w.cell? ⟨blk, 0, none⟩ = some (.iface 9 (.string s))) (hc1 : w.cell? ⟨blk, 1, none⟩ = some (.iface 3 (.int .i64 x))) (hc2 : w.cell? ⟨blk, 2, none⟩ = some (.iface 3 (.int .i64 y)))
    (g0 : w.cell? ⟨0, 0, none⟩ = some (.iface 81 (.pointer (some aE)))) (hR : w.cell? ⟨Rd, 32, none⟩ = some old) (hz : w.frozen? ⟨Rd, 32, none⟩ = false) (_hne : blk ≠ Rd) :
    Calls Ybaf.prog 25 #[.pointer (some ⟨Rd, 0, none⟩), .string cutText, .slice (some ⟨blk, 0, none⟩) 3 3] w fun e w' =>
      e = .returned (.iface 47 (.pointer (some ⟨w.heap.size, 0, none⟩))) ∧ ∃ tx, ((w.setCell ⟨Rd, 32, none⟩ (.iface 81 (.pointer (some aE)))).alloc (.cells #[.string tx] 112)).drew = w' := by
  have hF' := hF
  unfold Interp.answers at hF'
  go_enter Ybaf.func25, Ybaf.ntmps25
  go_wp2
  apply rows_value Ybaf.nextTurns
  case hr =>
    go_simp
    exact ⟨rfl, rfl⟩
  case h =>
    go_wp2
    go_ret
    exact ⟨rfl, _, rfl⟩

theorem stop (v : Value) (Rd : Nat) (old : Value) (w : World) (hv : ∃ t p, v = .iface t p) (hR : w.cell? ⟨Rd, 32, none⟩ = some old) (hz : w.frozen? ⟨Rd, 32, none⟩ = false) :
    Calls Ybaf.prog 26 #[.pointer (some ⟨Rd, 0, none⟩), v] w fun e w' => e = .returned v ∧ w.setCell ⟨Rd, 32, none⟩ v = w' := by
  obtain ⟨t, p, rfl⟩ := hv
  go_enter Ybaf.func26, Ybaf.ntmps26
  go_wp2
  go_ret
  exact ⟨rfl, rfl⟩
end Go.Proofs.YbulkcyvkFmt
