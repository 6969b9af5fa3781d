/-
  errors.New (8), bytes.Equal (11) of equal octets, bufio.NewReaderSize (9) over the law's source.
-/
import Derived.Test.YbulkcyvkFmtFull
import Derived.Laws.BytesArg
namespace Go.Proofs.YbulkcyvkFmt
open Go.RowKit
set_option maxRecDepth 100000

theorem errorsNew (s : ByteArray) (w : World) :
    Calls Ybaf.prog 8 #[.string s] w fun e w' => e = .returned (.iface 81 (.pointer (some ⟨w.heap.size, 0, none⟩))) ∧ w.alloc (.cells #[.string s] 83) = w' := by
  go_enter Ybaf.func8, Ybaf.ntmps8
  go_wp2
  go_ret
  exact ⟨rfl, rfl⟩

theorem convert_zero (w : World) (p : Option Addr) (c : Nat) : (convert 22 9 (.slice p 0 c)).run Ybaf.prog w = .ok (.string ByteArray.empty) w := by
  rw [run_convert_bytes_string w 22 9 5 _ 0 c Ybaf.underlying22 Ybaf.underlying5 Ybaf.underlying9]
  cases p <;> simp [Conv.bytesToString, loadCells]
  all_goals rfl
/-- What a slice of octets holds. -/
def Holds (a : Option Addr) (len : Nat) (xs : Nat → Nat) (w : World) : Prop := ∀ i, i < len → ∃ b o, a = some ⟨b, o, none⟩ ∧ w.cell? ⟨b, o + i, none⟩ = some (.int .u8 (xs i : Int))
theorem convert_holds {a : Option Addr} {len : Nat} {xs : Nat → Nat} {w : World} (h : Holds a len xs w) (c : Nat) : (convert 22 9 (.slice a len c)).run Ybaf.prog w = .ok (.string (strOfNums ((List.range len).map fun i => (xs i : Int)))) w := by
  cases len with
  | zero => exact convert_zero w a c
  | succ l =>
    obtain ⟨b, o, rfl, _⟩ := h 0 (by omega)
    refine run_convert_bytes_arg w 22 5 Ybaf.underlying22 Ybaf.underlying5 b o (l + 1) c _ (by simp) (fun i hi => ?_) 9 Ybaf.underlying9
    obtain ⟨b', o', e, hc⟩ := h i hi
    simp only [Option.some.injEq, Addr.mk.injEq] at e
    obtain ⟨rfl, rfl, _⟩ := e
    rw [hc]
    simp [List.getD, hi]
theorem bytesEqual (a1 a2 : Option Addr) (len c1 c2 : Nat) (xs : Nat → Nat) (w : World) (h1 : Holds a1 len xs w) (h2 : Holds a2 len xs w) :
    Calls Ybaf.prog 11 #[.slice a1 len c1, .slice a2 len c2] w fun e w' => e = .returned (.bool true) ∧ w = w' := by
  have k1 := convert_holds h1 c1
  have k2 := convert_holds h2 c2
  generalize strOfNums ((List.range len).map fun i => (xs i : Int)) = st at *
  go_enter Ybaf.func11, Ybaf.ntmps11
  go_wp2
  go_ret
  exact ⟨rfl, rfl⟩

@[go_sem] theorem assert26 (v : Value) (w : World) : (Instr.typeAssert (.iface 26 v) 85 30 true).run Ybaf.prog w = .ok (.tuple #[.pointer none, .bool false]) w := by kernel_rfl
@[go_sem] theorem assert47 (v : Value) (w : World) : (Instr.typeAssert (.iface 47 v) 24 47 true).run Ybaf.prog w = .ok (.tuple #[v, .bool true]) w := by kernel_rfl
@[go_sem] theorem assert113 (v : Value) (w : World) : (Instr.typeAssert (.iface 113 v) 24 47 true).run Ybaf.prog w = .ok (.tuple #[.pointer none, .bool false]) w := by kernel_rfl

theorem info5' : (Ybaf.prog.info? 5).map (fun i => (i.zero, i.size, i.bytes)) = some (some (.int .u8 0), 1, 1) := by kernel_rfl

set_option maxHeartbeats 1000000 in
theorem newReader (S : Nat) (w : World) :
    Calls Ybaf.prog 9 #[.iface 26 (.pointer (some ⟨S, 0, none⟩)), .int .i64 16] w fun e w' => e = .returned (.pointer (some ⟨w.heap.size, 0, none⟩)) ∧ (w.alloc (.cells #[.slice (some ⟨w.heap.size + 1, 0, none⟩) 16 16, .iface 26 (.pointer (some ⟨S, 0, none⟩)), .int .i64 0, .int .i64 0, .nilIface, .int .i64 (-1), .int .i64 (-1)] 88)).alloc (.cells (madeCells #[.int .u8 0] 16) 5) = w' := by
  have hmk : ∀ w, (Instr.makeSlice 22 (.int .i64 16) (.int .i64 16)).run Ybaf.prog w = .ok (.slice (some ⟨w.heap.size, 0, none⟩) 16 16) (w.alloc (.cells (madeCells #[.int .u8 0] 16) 5)) := run_make_row' (P := Ybaf.prog) 22 5 (.int .u8 0) 1 Ybaf.underlying22 info5' rfl .i64 .i64 16 (by omega) (by omega)
  go_enter Ybaf.func9, Ybaf.ntmps9
  go_wp2
  go_end0
  go_wp2
  go_ret
  exact ⟨rfl, rfl⟩
end Go.Proofs.YbulkcyvkFmt
