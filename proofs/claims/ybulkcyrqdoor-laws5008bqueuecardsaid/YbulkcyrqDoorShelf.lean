/-
  DERIVED: THE SHELF's CONTRACTS AT THIS DUMP, IN PLAIN WORDS (tools/lay-plain.mjs out of 'YbadShelf.lean', which tools/lay-shelf.mjs wrote): THE SAME DECLARATIONS UNDER THE SAME NAMES: 'import', 'namespace', 'open', 'def', 'theorem' AND NOTHING ELSE: no command of the shelf's: FOR A HAND-IN. Each laying: the table of numbers ('.._ren') and one theorem, a field a fact of the dump's own or the kernel's comparison; each contract: ONE APPLICATION.
-/
import Derived.Ground.Names7Prog
import Derived.Shelf.Spec.TrailingZeros
import Derived.Test.YbulkcyrqDoorProg
namespace Go.Proofs
open Go.Shelf
def Ybad.lays29_ren : Go.Shelf.Ren := ⟨fun | 29 => 42 | n => n, fun | 22 => 45 | 3 => 3 | 4 => 4 | 25 => 94 | 54 => 99 | 0 => 0 | 5 => 5 | n => n, fun | 1 => 0 | n => n⟩
theorem Ybad.lays29 : Go.Proofs.Lays7.n29 Ybad.prog Ybad.lays29_ren := {
  mixed := by kernel_rfl
  f29 := Ybad.func42.trans (congrArg some (by kernel_rfl))
  t0 := Ybad.underlying0
  a0 := Ybad.isAgg0
  z0 := Ybad.sizeOf0
  v0 := Ybad.zeroValue0
  i0 := by kernel_rfl
  t3 := Ybad.underlying3
  a3 := Ybad.isAgg3
  z3 := Ybad.sizeOf3
  v3 := Ybad.zeroValue3
  i3 := by kernel_rfl
  t4 := Ybad.underlying4
  a4 := Ybad.isAgg4
  z4 := Ybad.sizeOf4
  v4 := Ybad.zeroValue4
  i4 := by kernel_rfl
  t5 := Ybad.underlying5
  a5 := Ybad.isAgg5
  z5 := Ybad.sizeOf5
  v5 := Ybad.zeroValue5
  i5 := by kernel_rfl
  t22 := Ybad.underlying45
  a22 := Ybad.isAgg45
  z22 := Ybad.sizeOf45
  v22 := Ybad.zeroValue45
  i22 := by kernel_rfl
  t25 := Ybad.underlying94
  a25 := Ybad.isAgg94
  z25 := Ybad.sizeOf94
  v25 := Ybad.zeroValue94
  i25 := by kernel_rfl
  t54 := Ybad.underlying99
  a54 := Ybad.isAgg99
  z54 := Ybad.sizeOf99
  g1 := by kernel_rfl }
end Go.Proofs
