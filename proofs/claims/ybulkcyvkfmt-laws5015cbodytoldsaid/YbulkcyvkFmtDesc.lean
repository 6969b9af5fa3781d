/-
  damaged (38), readBody (39), interfaceDescription (20) where nothing is appended.
-/
import Derived.Test.YbulkcyvkFmtNum
namespace Go.Proofs.YbulkcyvkFmt
open Go.RowKit Go.Extern.Stop Go.Stop Go.Extern
set_option maxRecDepth 100000

-- "interface description block of %d octets is too short"
def tooText : ByteArray := ⟨#[105, 110, 116, 101, 114, 102, 97, 99, 101, 32, 100, 101, 115, 99, 114, 105, 112, 116, 105, 111, 110, 32, 98, 108, 111, 99, 107, 32, 111, 102, 32, 37, 100, 32, 111, 99, 116, 101, 116, 115, 32, 105, 115, 32, 116, 111, 111, 32, 115, 104, 111, 114, 116]⟩
-- "more than %d interfaces in one section"
def manyText : ByteArray := ⟨#[109, 111, 114, 101, 32, 116, 104, 97, 110, 32, 37, 100, 32, 105, 110, 116, 101, 114, 102, 97, 99, 101, 115, 32, 105, 110, 32, 111, 110, 101, 32, 115, 101, 99, 116, 105, 111, 110]⟩
@[go_sem] theorem Ybaf.fmt2r (w : World) : (FmtDoors.printed tooText 1).run Ybaf.prog w = .ok [(0, 100, false)] w := by kernel_rfl
@[go_sem] theorem Ybaf.has37b : tooText.data.contains 37 = true := by kernel_rfl
@[go_sem] theorem Ybaf.fmt3r (w : World) : (FmtDoors.printed manyText 1).run Ybaf.prog w = .ok [(0, 100, false)] w := by kernel_rfl
@[go_sem] theorem Ybaf.has37c : manyText.data.contains 37 = true := by kernel_rfl
def Ybaf.shape39 : List UInt8 := [8, 6, 0, 0, 0, 0, 0, 0, 0, 117, 105, 110, 116, 51, 50]
@[go_sem] theorem Ybaf.act39_100w (name : String) (x : Value) (w : World) : (FmtCalls.act name true 100 false (.iface 39 x)).run Ybaf.prog w = .ok (.closed true) w := by kernel_rfl
@[go_sem] theorem Ybaf.op39_100w (name : String) (x : Int) (w : World) : (FmtStop.operand name true 100 false (.iface 39 (.int .u32 x))).run Ybaf.prog w = .ok (Ybaf.shape39, Go.Extern.Stop.digits 8 (x % 2 ^ 64).toNat) w := by kernel_rfl
@[go_sem] theorem Ybaf.act3_100w (name : String) (x : Value) (w : World) : (FmtCalls.act name true 100 false (.iface 3 x)).run Ybaf.prog w = .ok (.closed true) w := by kernel_rfl
@[go_sem] theorem Ybaf.op3_100w (name : String) (x : Int) (w : World) : (FmtStop.operand name true 100 false (.iface 3 (.int .i64 x))).run Ybaf.prog w = .ok (Ybaf.shape3, Go.Extern.Stop.digits 8 (x % 2 ^ 64).toNat) w := by kernel_rfl

set_option maxHeartbeats 1000000 in
theorem errorfTo (F : Interp) (x : Int) (blk : Nat) (w : World) (hF : F.answers w.tape) (hc0 : w.cell? ⟨blk, 0, none⟩ = some (.iface 39 (.int .u32 x))) :
    Calls Ybaf.prog 27 #[.string tooText, .slice (some ⟨blk, 0, none⟩) 1 1] w fun e w' =>
      e = .returned (.iface 81 (.pointer (some ⟨w.heap.size, 0, none⟩))) ∧ ∃ tx, (w.alloc (.cells #[.string tx] 83)).drew = w' := by
  have hF' := hF
  unfold Interp.answers at hF'
  go_enter Ybaf.func27, Ybaf.ntmps27
  go_wp2
  apply rows_value Ybaf.nextTurns
  case hr =>
    go_simp
    exact ⟨rfl, rfl⟩
  case h =>
    go_wp2
    go_ret
    exact ⟨rfl, _, rfl⟩
set_option maxHeartbeats 1000000 in
theorem errorfMany (F : Interp) (x : Int) (blk : Nat) (w : World) (hF : F.answers w.tape) (hc0 : w.cell? ⟨blk, 0, none⟩ = some (.iface 3 (.int .i64 x))) :
    Calls Ybaf.prog 27 #[.string manyText, .slice (some ⟨blk, 0, none⟩) 1 1] w fun e w' =>
      e = .returned (.iface 81 (.pointer (some ⟨w.heap.size, 0, none⟩))) ∧ ∃ tx, (w.alloc (.cells #[.string tx] 83)).drew = w' := by
  have hF' := hF
  unfold Interp.answers at hF'
  go_enter Ybaf.func27, Ybaf.ntmps27
  go_wp2
  apply rows_value Ybaf.nextTurns
  case hr =>
    go_simp
    exact ⟨rfl, rfl⟩
  case h =>
    go_wp2
    go_ret
    exact ⟨rfl, _, rfl⟩

/-- 'damaged', whatever its text. -/
theorem damaged_of (t : ByteArray) (blk Rd : Nat) (w : World) (h : Calls Ybaf.prog 27 #[.string t, .slice (some ⟨blk, 0, none⟩) 1 1] w fun e w' => e = .returned (.iface 81 (.pointer (some ⟨w.heap.size, 0, none⟩))) ∧ ∃ tx, (w.alloc (.cells #[.string tx] 83)).drew = w')
    (hR : ∀ o, (w.alloc o).cell? ⟨Rd, 32, none⟩ = some .nilIface) (hz : ∀ o, (w.alloc o).frozen? ⟨Rd, 32, none⟩ = false) :
    Calls Ybaf.prog 38 #[.pointer (some ⟨Rd, 0, none⟩), .string t, .slice (some ⟨blk, 0, none⟩) 1 1] w fun e w' =>
      e = .returned (.iface 81 (.pointer (some ⟨w.heap.size, 0, none⟩))) ∧ ∃ tx, ((w.alloc (.cells #[.string tx] 83)).setCell ⟨Rd, 32, none⟩ (.iface 81 (.pointer (some ⟨w.heap.size, 0, none⟩)))).drew = w' := by
  have HC := hide h
  have HR := hide hR
  have HZ := hide hz
  clear h hR hz
  go_enter Ybaf.func38, Ybaf.ntmps38
  go_wp2_with (first
    | (go_at_call 27; refine (unhide HC).mono ?_; rintro e w1 ⟨rfl, tx, rfl⟩)
    | (go_at_call 26; refine (stop _ Rd .nilIface _ ⟨_, _, rfl⟩ (by exact unhide HR _) (by exact unhide HZ _)).mono ?_; rintro e w2 ⟨rfl, rfl⟩))
  go_ret
  exact ⟨rfl, _, rfl⟩

/-- What is left where the description is refused. -/
def Refused (Rd : Nat) (G : Nat → Value) (w : World) (e : Ending) (w' : World) : Prop :=
  ∃ p, e = .returned (.iface 81 (.pointer (some ⟨p, 0, none⟩))) ∧ w'.rowIs Rd 44 33 (upd G 32 (.iface 81 (.pointer (some ⟨p, 0, none⟩)))) ∧ Grew (fun j => j = Rd) w w'

section
variable {Rd : Nat} {G : Nat → Value} {w : World}
theorem two_allocs (h : w.rowIs Rd 44 33 G) (h32 : G 32 = .nilIface) (o : Obj) : (∀ o', ((w.alloc o).alloc o').cell? ⟨Rd, 32, none⟩ = some .nilIface) ∧ (∀ o', ((w.alloc o).alloc o').frozen? ⟨Rd, 32, none⟩ = false) :=
  ⟨fun o' => by rw [((h.alloc o).alloc o').cell (by omega), h32], fun o' => ((h.alloc o).alloc o').frozen 32⟩
theorem refused_of (h : w.rowIs Rd 44 33 G) (o : Obj) (tx : ByteArray) : Refused Rd G w (.returned (.iface 81 (.pointer (some ⟨w.heap.size + 1, 0, none⟩)))) (((w.alloc o).alloc (.cells #[.string tx] 83)).setCell ⟨Rd, 32, none⟩ (.iface 81 (.pointer (some ⟨w.heap.size + 1, 0, none⟩)))).drew :=
  ⟨_, rfl, (row_set ((h.alloc o).alloc _) 32 _).drew, ((((Grew.refl (fun j => j = Rd) w).alloc o).alloc _).setCell (a := ⟨Rd, 32, none⟩) rfl _).drew⟩

set_option maxHeartbeats 1000000 in
theorem desc_short (F : Interp) (left : Nat) (total : Int) (hF : F.answers w.tape) (h : w.rowIs Rd 44 33 G) (h6 : G 6 = .int .u32 (left : Int)) (h32 : G 32 = .nilIface) (hl : left < 8) :
    Calls Ybaf.prog 20 #[.pointer (some ⟨Rd, 0, none⟩), .int .u32 total] w fun e w' => Refused Rd G w e w' := by
  have x6 : w.cell? ⟨Rd, 6, none⟩ = some (.int .u32 (left : Int)) := by rw [h.cell (by omega), h6]
  have H2 := hide (two_allocs h h32)
  have HF := hide hF
  have HH := hide h
  clear h hF
  go_enter Ybaf.func20, Ybaf.ntmps20
  go_wp2_with (go_at_call 38; refine (damaged_of tooText _ Rd _ (by exact errorfTo F total _ _ (by exact unhide HF) (by go_simp)) (by exact (unhide H2 _).1) (by exact (unhide H2 _).2)).mono ?_; rintro e w2 ⟨rfl, tx, rfl⟩)
  go_ret
  exact refused_of (unhide HH) _ _

set_option maxHeartbeats 1000000 in
theorem desc_many (F : Interp) (left : Nat) (total : Int) (ia : Option Addr) (ic : Nat) (hF : F.answers w.tape) (h : w.rowIs Rd 44 33 G) (h6 : G 6 = .int .u32 (left : Int)) (h5 : G 5 = .slice ia 65536 ic) (h32 : G 32 = .nilIface) (hl : 8 ≤ left) :
    Calls Ybaf.prog 20 #[.pointer (some ⟨Rd, 0, none⟩), .int .u32 total] w fun e w' => Refused Rd G w e w' := by
  have x6 : w.cell? ⟨Rd, 6, none⟩ = some (.int .u32 (left : Int)) := by rw [h.cell (by omega), h6]
  have x5 : w.cell? ⟨Rd, 5, none⟩ = some (.slice ia 65536 ic) := by rw [h.cell (by omega), h5]
  have H2 := hide (two_allocs h h32)
  have HF := hide hF
  have HH := hide h
  clear h hF
  go_enter Ybaf.func20, Ybaf.ntmps20
  go_wp2_with (go_at_call 38; refine (damaged_of manyText _ Rd _ (by exact errorfMany F 65536 _ _ (by exact unhide HF) (by go_simp)) (by exact (unhide H2 _).1) (by exact (unhide H2 _).2)).mono ?_; rintro e w2 ⟨rfl, tx, rfl⟩)
  go_ret
  exact refused_of (unhide HH) _ _
end
end Go.Proofs.YbulkcyvkFmt
