/-
  DERIVED. GIVEN WITH THE SEED: THE CARDS: each row of YbulkcyuwDoorRows.lean that lists a variable, with what it lists TIED to the program's text (the seventh form; the later family's looks); each row that meets fmt, with fmt's text TOLD by the authors' own Lean function (tested against real Go, not proved from fmt's source: count such statements apart). THE CARD IS WHAT COUNTS. Prove the row's statement (the work); the ties are given (YbulkcyuwDoorTie.lean); close each card by the builder's one call (the guide's Derived/Test/ToyasCard.lean, 'card_holds'). Laid BY PROGRAM, IN A SANDBOX (cutbox-door.mjs). By AI agents, Wed Nov 11 2026. No macro, syntax, notation, axiom, sorry.
-/
import Derived.Test.YbulkcyuwDoorRows
import GoSem.ClaimSeven
namespace Go.Proofs.YbulkcyuwDoor
namespace Rows

/-- THE TIED CARD OF 'squawkstream.LawS5014AScript'. -/
def lawS5014AScriptCard : Claim7 := { stood := { row := lawS5014AScriptRow, standIns := [], harness := (true, "d8d649a2c3c7d2cb8ec3367f3efc8e8ef605ebd4dfe4da44db6313b9b1fcd38a"), looks := false }, kinds := [], alts := [], laidByText := true, laidKinds := [.data, .data, .data, .data, .data, .data], laidTests := true, laidLooks := .later }
def LawS5014AScriptCardSaid : Prop := Claim7.holds Ybad.pinned (.plain (OpenSpec.ofChange lawS5014AScriptSpec)) lawS5014AScriptCard
end Rows
end Go.Proofs.YbulkcyuwDoor
