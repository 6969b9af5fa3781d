/-
  THE LAW's READER as the law makes it.
-/
import Derived.Test.YbulkcyvkFmtRead
import Derived.Test.YbulkcyvkFmtNew
namespace Go.Proofs.YbulkcyvkFmt
open Go.RowKit

def nths (a : Array Value) : Nat → Value := fun i => a.getD i (.bool false)
theorem row_at (X : World) (H : Nat) (hH : X.heap.size = H) (a : Array Value) (t : TypeId) (n : Nat) (h : a.size = n) : (X.alloc (.cells a t)).rowIs H t n (nths a) := by
  subst h hH
  exact World.rowIs_alloc X a t (nths a) (fun i hi => by simp [nths, Array.getD, hi])
theorem made_list (z : Value) (n : Nat) : madeCells #[z] n = (List.replicate n z).toArray := by
  apply Array.ext
  · simp [size_madeCells]
  · intro i h1 h2
    simp [madeCells, Nat.mod_one]
theorem oct_at (X : World) (H : Nat) (hH : X.heap.size = H) (n : Nat) : Oct H (List.replicate n (.int .u8 0)) (X.alloc (.cells (madeCells #[.int .u8 0] n) 5)) := by
  subst hH
  unfold Oct
  rw [made_list]
  exact heap_alloc_new _ _
theorem Oct.alloc {g : Nat} {cur : List Value} {w : World} (h : Oct g cur w) (o : Obj) : Oct g cur (w.alloc o) := h.of_block (Below.heap_alloc _ _ _ h.lt)

theorem ready_of (B : Nat) (w0 : World) (hB : B ≤ w0.heap.size) (aE aU ae : Addr) (sn : Sents B aE aU w0) (da : Option Addr) (N cap k : Nat) (dat : Nat → Nat) (n : Nat)
    (hdata : ∀ i, i < N → ∃ b o, da = some ⟨b, o, none⟩ ∧ b < B ∧ w0.cell? ⟨b, o + i, none⟩ = some (.int .u8 (dat i : Int))) (hk : 1 ≤ k ∧ k ≤ 7) (hroom : N ≤ cap ∧ cap ≤ maxLen ∧ N ≤ 65536) (hn : n ≤ 255)
    (A : Array Value) (hA : A.size = 33) (hA0 : nths A 0 = .pointer (some ⟨w0.heap.size + 1, 0, none⟩)) (hA32 : nths A 32 = .nilIface) :
    Ready B (w0.heap.size + 3) (w0.heap.size + 1) (w0.heap.size + 2) w0.heap.size (w0.heap.size + 4) da N cap k dat ae aE aU n
      (((((w0.alloc (.cells #[.slice da N cap, .int .i64 0, .int .i64 k, .iface 81 (.pointer (some ae))] 28)).alloc (.cells #[.slice (some ⟨w0.heap.size + 2, 0, none⟩) 16 16, .iface 26 (.pointer (some ⟨w0.heap.size, 0, none⟩)), .int .i64 0, .int .i64 0, .nilIface, .int .i64 (-1), .int .i64 (-1)] 88)).alloc (.cells (madeCells #[.int .u8 0] 16) 5)).alloc (.cells A 44)).alloc (.cells (madeCells #[.int .u8 0] n) 5)) := by
  have rS := ((((row_at w0 _ rfl #[.slice da N cap, .int .i64 0, .int .i64 k, .iface 81 (.pointer (some ae))] 28 4 rfl).alloc (.cells #[.slice (some ⟨w0.heap.size + 2, 0, none⟩) 16 16, .iface 26 (.pointer (some ⟨w0.heap.size, 0, none⟩)), .int .i64 0, .int .i64 0, .nilIface, .int .i64 (-1), .int .i64 (-1)] 88)).alloc (.cells (madeCells #[.int .u8 0] 16) 5)).alloc (.cells A 44)).alloc (.cells (madeCells #[.int .u8 0] n) 5)
  have rR := (((row_at (w0.alloc (.cells #[.slice da N cap, .int .i64 0, .int .i64 k, .iface 81 (.pointer (some ae))] 28)) (w0.heap.size + 1) (by simp) #[.slice (some ⟨w0.heap.size + 2, 0, none⟩) 16 16, .iface 26 (.pointer (some ⟨w0.heap.size, 0, none⟩)), .int .i64 0, .int .i64 0, .nilIface, .int .i64 (-1), .int .i64 (-1)] 88 7 rfl).alloc (.cells (madeCells #[.int .u8 0] 16) 5)).alloc (.cells A 44)).alloc (.cells (madeCells #[.int .u8 0] n) 5)
  have rb := ((oct_at ((w0.alloc (.cells #[.slice da N cap, .int .i64 0, .int .i64 k, .iface 81 (.pointer (some ae))] 28)).alloc (.cells #[.slice (some ⟨w0.heap.size + 2, 0, none⟩) 16 16, .iface 26 (.pointer (some ⟨w0.heap.size, 0, none⟩)), .int .i64 0, .int .i64 0, .nilIface, .int .i64 (-1), .int .i64 (-1)] 88)) (w0.heap.size + 2) (by simp) 16).alloc (.cells A 44)).alloc (.cells (madeCells #[.int .u8 0] n) 5)
  have rA := (row_at (((w0.alloc (.cells #[.slice da N cap, .int .i64 0, .int .i64 k, .iface 81 (.pointer (some ae))] 28)).alloc (.cells #[.slice (some ⟨w0.heap.size + 2, 0, none⟩) 16 16, .iface 26 (.pointer (some ⟨w0.heap.size, 0, none⟩)), .int .i64 0, .int .i64 0, .nilIface, .int .i64 (-1), .int .i64 (-1)] 88)).alloc (.cells (madeCells #[.int .u8 0] 16) 5)) (w0.heap.size + 3) (by simp) A 44 33 hA).alloc (.cells (madeCells #[.int .u8 0] n) 5)
  have rg := oct_at ((((w0.alloc (.cells #[.slice da N cap, .int .i64 0, .int .i64 k, .iface 81 (.pointer (some ae))] 28)).alloc (.cells #[.slice (some ⟨w0.heap.size + 2, 0, none⟩) 16 16, .iface 26 (.pointer (some ⟨w0.heap.size, 0, none⟩)), .int .i64 0, .int .i64 0, .nilIface, .int .i64 (-1), .int .i64 (-1)] 88)).alloc (.cells (madeCells #[.int .u8 0] 16) 5)).alloc (.cells A 44)) (w0.heap.size + 4) (by simp) n
  have bel := ((((Below.refl B w0).alloc hB (.cells #[.slice da N cap, .int .i64 0, .int .i64 k, .iface 81 (.pointer (some ae))] 28)).alloc (by simp; omega) (.cells #[.slice (some ⟨w0.heap.size + 2, 0, none⟩) 16 16, .iface 26 (.pointer (some ⟨w0.heap.size, 0, none⟩)), .int .i64 0, .int .i64 0, .nilIface, .int .i64 (-1), .int .i64 (-1)] 88)).alloc (by simp; omega) (.cells (madeCells #[.int .u8 0] 16) 5)).alloc (by simp; omega) (.cells A 44)
  have bel := bel.alloc (by simp; omega) (.cells (madeCells #[.int .u8 0] n) 5)
  revert rS rR rb rA rg bel
  generalize (((((w0.alloc (.cells #[.slice da N cap, .int .i64 0, .int .i64 k, .iface 81 (.pointer (some ae))] 28)).alloc (.cells #[.slice (some ⟨w0.heap.size + 2, 0, none⟩) 16 16, .iface 26 (.pointer (some ⟨w0.heap.size, 0, none⟩)), .int .i64 0, .int .i64 0, .nilIface, .int .i64 (-1), .int .i64 (-1)] 88)).alloc (.cells (madeCells #[.int .u8 0] 16) 5)).alloc (.cells A 44)).alloc (.cells (madeCells #[.int .u8 0] n) 5)) = W
  intro rS rR rb rA rg bel
  refine ⟨⟨⟨by omega, by omega⟩, by simpa [fil, bytes] using rg, ⟨0, 0, _, ⟨_, rR, rfl, rfl, rfl, rfl, rfl⟩, rb, by simp, ⟨by omega, by omega⟩, fun i hi => by omega, ?_, ⟨by omega, by omega⟩⟩, Only.refl _ _⟩, ⟨_, rA, hA0, hA32⟩, sn.below bel, ⟨by omega, by omega⟩, by omega, hn⟩
  refine ⟨rS.congr (fun i hi => ?_), fun i hi => ?_, hk, by omega, hroom, hB⟩
  · match i, hi with
    | 0, _ => rfl
    | 1, _ => rfl
    | 2, _ => rfl
    | 3, _ => rfl
  · obtain ⟨b, o, e, hb, hc⟩ := hdata i hi
    exact ⟨b, o, e, hb, (bel.cell (p := ⟨b, o + i, none⟩) hb).trans hc⟩
end Go.Proofs.YbulkcyvkFmt
