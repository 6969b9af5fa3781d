/-
  DERIVED. GIVEN WITH THE SEED: THE PROGRAM's TIES (one call each: nine closed facts by the kernel) AND EACH ROW's TIE, after the 31st guide's Derived/Test/Toyas{Tie, Card}.lean. No idea stands in it: it is a product of the set-up. Laid BY PROGRAM, IN A SANDBOX (cutbox-door.mjs). By AI agents, Wed Nov 11 2026. No macro, syntax, notation, axiom, sorry.
-/
import Derived.Test.YbulkcyuwDoorRows
import Derived.LaidByTextLater
import Derived.SevenTiedAt
import Derived.LaidSub
import Derived.LaidOnce
namespace Go.Proofs.YbulkcyuwDoor
open Go
set_option maxRecDepth 100000
theorem seatTie1 : Ybad.prog.laidByTextLater [("math.pow10tab", Rows.laid_math_pow10tab), ("math.pow10postab32", Rows.laid_math_pow10postab32), ("math.pow10negtab32", Rows.laid_math_pow10negtab32), ("math._sin", Rows.laid_math_sin), ("math._cos", Rows.laid_math_cos), ("math.mPi4", Rows.laid_math_mPi4)] [.data, .data, .data, .data, .data, .data] true :=
  Program.laidByTextLater_by_one 39 8 33 (by kernel_rfl) (by kernel_rfl) (by kernel_rfl) (by kernel_rfl) (by kernel_rfl) (by kernel_rfl) (fun _ _ => by kernel_rfl)
theorem noOwnUnsafe : Ybad.pinned.checked.prog.headLifts.contains "ownunsafe" = false := by kernel_rfl
theorem tie : Ybad.prog.laidByTextLater [("math.pow10tab", Rows.laid_math_pow10tab), ("math.pow10postab32", Rows.laid_math_pow10postab32), ("math.pow10negtab32", Rows.laid_math_pow10negtab32), ("math._sin", Rows.laid_math_sin), ("math._cos", Rows.laid_math_cos), ("math.mPi4", Rows.laid_math_mPi4)] [.data, .data, .data, .data, .data, .data] true :=
  Program.laidByTextLater.sub seatTie1 ["math.pow10tab", "math.pow10postab32", "math.pow10negtab32", "math._sin", "math._cos", "math.mPi4"] (by kernel_rfl) (by kernel_rfl)
theorem lawS5014AScript_row_tie : Rows.lawS5014AScriptRow.laidByTextAt .later Ybad.pinned [.data, .data, .data, .data, .data, .data] true :=
  OpenClaim.laidByTextAt_later rfl rfl tie noOwnUnsafe
end Go.Proofs.YbulkcyuwDoor
