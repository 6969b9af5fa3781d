/-
  The four entries of the model's that stand in for functions of package math: Float64bits (27), Float64frombits (26), archFloor (23), sqrt (62).
-/
import Derived.Test.YbulkcyuwDoorChecked
import Derived.WalkKit
import Derived.WalkSpells
import Derived.WalkLawsBesides
import Derived.Laws.Externs
import Derived.Deep.OwnRows
import Derived.Deep.Cut
import Derived.Deep.CutRange
import Derived.Deep.RegionLaw
import Derived.Deep.RegionWith
import Derived.KernelRfl
import Derived.Test.YbulkcyuwDoorPure
namespace Go.Proofs.YbulkcyuwDoor
open Go.RowKit

theorem hide {p : Prop} (h : p) : Hid p := h
theorem unhide {p : Prop} (h : Hid p) : p := h

theorem call_bits (b : Nat) (w : World) : (callFunc 27 #[.float .f64 b]).run Ybad.prog w = .ok (.value (.int .u64 b)) w := by
  rw [run_callFunc_extern Ybad.func27 (by kernel_rfl) (by kernel_rfl) (by kernel_rfl) (e := Extern.MathFloatBits.float64bits) (by kernel_rfl)]; rfl
theorem call_frombits (n : Int) (w : World) : (callFunc 26 #[.int .u64 n]).run Ybad.prog w = .ok (.value (.float .f64 n.toNat)) w := by
  rw [run_callFunc_extern Ybad.func26 (by kernel_rfl) (by kernel_rfl) (by kernel_rfl) (e := Extern.MathFloatBits.float64frombits) (by kernel_rfl)]; rfl
theorem floor_of_number (A : Bool → Nat → Sem Value) (d : Ieee.Datum) (s : Bool) (m : Nat) (e : Int) (h : d = .number s m e) :
    (match (generalizing := false) d with
    | .nan s t => A s t
    | d => pure (.float .f64 (FloatKind.f64.encode (d.integral .down)))) = (pure (.float .f64 (FloatKind.f64.encode (d.integral .down))) : Sem Value) := by
  subst h; rfl
theorem call_floor (x : Nat) (hx : Fine x) (w : World) : (callFunc 23 #[.float .f64 x]).run Ybad.prog w = .ok (.value (.float .f64 (floorW x))) w := by
  rw [run_callFunc_extern Ybad.func23 (by kernel_rfl) (by kernel_rfl) (by kernel_rfl) (e := Extern.MathFloor.toIntegral "math.archFloor" .down) (by kernel_rfl)]
  have hd : FloatKind.f64.decode x = _ := read_fine hx
  have key : Extern.MathFloor.toIntegral "math.archFloor" .down #[.float .f64 x] = (pure (.float .f64 (FloatKind.f64.encode ((FloatKind.f64.decode x).integral .down))) : Sem Value) :=
    floor_of_number _ (FloatKind.f64.decode x) _ _ _ hd
  rw [key]; rfl
theorem call_sqrt (x r : Nat) (h : Ieee.double.sqrt x = some r) (w : World) : (callFunc 62 #[.float .f64 x]).run Ybad.prog w = .ok (.value (.float .f64 r)) w := by
  rw [run_callFunc_extern Ybad.func62 (by kernel_rfl) (by kernel_rfl) (by kernel_rfl) (e := Extern.MathSqrt.sqrt) (by kernel_rfl)]
  have h' : FloatKind.f64.format.sqrt x = some r := h
  change ((match FloatKind.f64.format.sqrt x with
    | some r => pure (.float .f64 r)
    | none => do pure (.float .f64 (← choose (.nanBits .f64 x x))) : Sem Value).run Ybad.prog w).andThen _ = _
  rw [h']
  rfl

theorem bits_andNot_u64 (a b : Nat) (ha : a < 18446744073709551616) (hb : b < 18446744073709551616) :
    bits .andNot .u64 (a : Int) (b : Int) = ((a &&& (18446744073709551615 - b) : Nat) : Int) := by
  have hlt : (a &&& (18446744073709551615 - b)) < 18446744073709551616 := Nat.lt_of_le_of_lt Nat.and_le_left ha
  have h1 : (BitVec.ofInt 64 (a : Int)).toNat = a := by
    rw [BitVec.ofInt_natCast, BitVec.toNat_ofNat]; exact Nat.mod_eq_of_lt (by omega)
  have h2 : (BitVec.ofInt 64 (b : Int)).toNat = b := by
    rw [BitVec.ofInt_natCast, BitVec.toNat_ofNat]; exact Nat.mod_eq_of_lt (by omega)
  show IntKind.u64.wrap ((BitVec.ofInt 64 (a : Int) &&& ~~~BitVec.ofInt 64 (b : Int)).toNat : Int) = _
  rw [BitVec.toNat_and, BitVec.toNat_not, h1, h2, IntKind.wrap_u64]
  rw [show (2 ^ 64 - 1 - b : Nat) = 18446744073709551615 - b from rfl]
  omega

theorem abs_any (x : Nat) (hx : x < 2 ^ 64) (w : World) :
    Calls Ybad.prog 18 #[.float .f64 x] w fun e w' => e = .returned (.float .f64 (absW x)) ∧ w' = w := by
  have h1 := call_bits
  have h2 := call_frombits
  have h3 : bits .andNot .u64 (x : Int) 9223372036854775808 = ((x % 9223372036854775808 : Nat) : Int) := by
    rw [show (9223372036854775808 : Int) = ((9223372036854775808 : Nat) : Int) from rfl, bits_andNot_u64 x _ (by omega) (by omega)]
    rw [show (18446744073709551615 - 9223372036854775808 : Nat) = 2 ^ 63 - 1 from rfl, Nat.and_two_pow_sub_one_eq_mod]
  go_enter Ybad.func18, Ybad.ntmps18
  go_wp2
  go_ret
  exact ⟨rfl, rfl⟩
end Go.Proofs.YbulkcyuwDoor
