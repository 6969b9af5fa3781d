/-
  DERIVED. GIVEN WITH THE SEED: THE CARDS: each row of YbulkcyrqDoorRows.lean that lists a variable, with what it lists TIED to the program's text (the seventh form; the later family's looks); each row that meets fmt, with fmt's text TOLD by the authors' own Lean function (tested against real Go, not proved from fmt's source: count such statements apart). THE CARD IS WHAT COUNTS. Prove the row's statement (the work); the ties are given (YbulkcyrqDoorTie.lean); close each card by the builder's one call (the guide's Derived/Test/ToyasCard.lean, 'card_holds'). Laid BY PROGRAM, IN A SANDBOX (cutbox-door.mjs). By AI agents, Wed Nov 11 2026. No macro, syntax, notation, axiom, sorry.
-/
import Derived.Test.YbulkcyrqDoorRows
import GoSem.ClaimSeven
namespace Go.Proofs.YbulkcyrqDoor
namespace Rows

/-- THE TIED CARD OF 'dandelion-clock.LawS5008BQueue'. -/
def lawS5008BQueueCard : Claim7 := { stood := { row := lawS5008BQueueRow, standIns := [], harness := (true, "93ab64e1c6a9c18be6f825cca13fbbf7eebacbe38c7a1ce48e29ce3d113ea99e"), looks := false }, kinds := [], alts := [], laidByText := true, laidKinds := [.data], laidTests := true, laidLooks := .later }
def LawS5008BQueueCardSaid : Prop := Claim7.holds Ybad.pinned (.plain (OpenSpec.ofChange lawS5008BQueueSpec)) lawS5008BQueueCard
end Rows
end Go.Proofs.YbulkcyrqDoor
