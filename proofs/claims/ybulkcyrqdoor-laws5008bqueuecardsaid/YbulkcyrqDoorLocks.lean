/-
  The numbers under which this dump holds sync.Mutex's functions and types (after the guide's StatsLocks.lean).
-/
import Derived.Test.YbulkcyrqDoorProg
import Derived.Conc.RwLib
import Derived.Conc.MuData
import Derived.KernelRfl
namespace Go.Proofs
abbrev Ybad.muLink : Go.Conc.Locks.MuLink := { lock := 12, unlock := 9, ilock := 16, iunlock := 15, lockSlow := 29, unlockSlow := 28, disable := 22, enable := 23, acquire := 25, relMerge := 26, cas32 := 24, add32 := 27, tMutex := 57, tIMutex := 55, tPMutex := 78, tPIMutex := 84, tPI32 := 86, tUP := 37, tNoCopy := 34, tU32 := 29 }
theorem Ybad.muLib : Go.Conc.Locks.MuLib Ybad.prog Ybad.muLink :=
  ⟨Ybad.func12, Ybad.func9, Ybad.func16, Ybad.func15, Ybad.func22, Ybad.func23, Ybad.func25, Ybad.func26, Ybad.func24, Ybad.func27, Ybad.underlying55, Ybad.runUnderlying55, Ybad.sizeOf55, Ybad.isAgg55, Ybad.zeroValue55, Ybad.underlying57, Ybad.runUnderlying57, Ybad.sizeOf57, Ybad.isAgg57, Ybad.zeroValue57, Ybad.underlying78, Ybad.runUnderlying78, Ybad.sizeOf78, Ybad.isAgg78, Ybad.zeroValue78, Ybad.underlying84, Ybad.runUnderlying84, Ybad.sizeOf84, Ybad.isAgg84, Ybad.zeroValue84, Ybad.underlying86, Ybad.runUnderlying86, Ybad.sizeOf86, Ybad.isAgg86, Ybad.zeroValue86, Ybad.underlying37, Ybad.runUnderlying37, Ybad.sizeOf37, Ybad.isAgg37, Ybad.zeroValue37, Ybad.underlying34, Ybad.runUnderlying34, Ybad.sizeOf34, Ybad.isAgg34, Ybad.zeroValue34, Ybad.underlying21, Ybad.runUnderlying21, Ybad.sizeOf21, Ybad.isAgg21, Ybad.zeroValue21, (by kernel_rfl)⟩
end Go.Proofs
