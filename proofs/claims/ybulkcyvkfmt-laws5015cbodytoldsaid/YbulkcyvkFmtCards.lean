/-
  DERIVED. GIVEN WITH THE SEED: THE CARDS: each row of YbulkcyvkFmtRows.lean that lists a variable, with what it lists TIED to the program's text (the seventh form; the later family's looks); each row that meets fmt, with fmt's text TOLD by the authors' own Lean function (tested against real Go, not proved from fmt's source: count such statements apart). THE CARD IS WHAT COUNTS. Prove the row's statement (the work); the ties are given (YbulkcyvkFmtTie.lean); close each card by the builder's one call (the guide's Derived/Test/ToyasCard.lean, 'card_holds'). Laid BY PROGRAM, IN A SANDBOX (cutbox-door.mjs). By AI agents, Wed Nov 11 2026. No macro, syntax, notation, axiom, sorry.
-/
import Derived.Test.YbulkcyvkFmtRows
import GoSem.ClaimSeven
namespace Go.Proofs.YbulkcyvkFmt
namespace Rows

/-- THE TOLD AND TIED CARD OF 'capture.LawS5015AFill'. -/
def lawS5015AFillCard : Claim7 := { stood := { row := lawS5015AFillRow, standIns := [], harness := (true, "6abc8a5a49da5794575b6a23ae7f647e12332e3f651e64c3195d6b8547c2e14b"), looks := true }, told := true, laidByText := true, laidKinds := [.sentinel, .sentinel, .sentinel], laidTests := true, laidLooks := .later, goes := false }
def LawS5015AFillToldSaid : Prop := Claim7.holds Ybaf.pinned (.plain (OpenSpec.ofChange lawS5015AFillSpec)) lawS5015AFillCard
/-- ITS FALSE NEIGHBOUR. Refute it at one input. -/
def LawS5015AFillToldWrongFalsely : Prop := Claim7.holds Ybaf.pinned (.plain (OpenSpec.ofChange lawS5015AFillWrong)) lawS5015AFillCard

/-- THE TOLD AND TIED CARD OF 'capture.LawS5015BEnhanced'. -/
def lawS5015BEnhancedCard : Claim7 := { stood := { row := lawS5015BEnhancedRow, standIns := [], harness := (true, "6abc8a5a49da5794575b6a23ae7f647e12332e3f651e64c3195d6b8547c2e14b"), looks := true }, told := true, laidByText := true, laidKinds := [.sentinel, .sentinel, .sentinel, .sentinel, .sentinel, .wider], laidTests := true, laidLooks := .later, goes := false }
def LawS5015BEnhancedToldSaid : Prop := Claim7.holds Ybaf.pinned (.plain (OpenSpec.ofChange lawS5015BEnhancedSpec)) lawS5015BEnhancedCard
/-- ITS FALSE NEIGHBOUR. Refute it at one input. -/
def LawS5015BEnhancedToldWrongFalsely : Prop := Claim7.holds Ybaf.pinned (.plain (OpenSpec.ofChange lawS5015BEnhancedWrong)) lawS5015BEnhancedCard

/-- THE TOLD AND TIED CARD OF 'capture.LawS5015BOther'. -/
def lawS5015BOtherCard : Claim7 := { stood := { row := lawS5015BOtherRow, standIns := [], harness := (true, "6abc8a5a49da5794575b6a23ae7f647e12332e3f651e64c3195d6b8547c2e14b"), looks := true }, told := true, laidByText := true, laidKinds := [.sentinel, .sentinel, .sentinel, .sentinel, .sentinel, .wider], laidTests := true, laidLooks := .later, goes := false }
def LawS5015BOtherToldSaid : Prop := Claim7.holds Ybaf.pinned (.plain (OpenSpec.ofChange lawS5015BOtherSpec)) lawS5015BOtherCard
/-- ITS FALSE NEIGHBOUR. Refute it at one input. -/
def LawS5015BOtherToldWrongFalsely : Prop := Claim7.holds Ybaf.pinned (.plain (OpenSpec.ofChange lawS5015BOtherWrong)) lawS5015BOtherCard

/-- THE TOLD AND TIED CARD OF 'capture.LawS5015BDamaged'. -/
def lawS5015BDamagedCard : Claim7 := { stood := { row := lawS5015BDamagedRow, standIns := [], harness := (true, "6abc8a5a49da5794575b6a23ae7f647e12332e3f651e64c3195d6b8547c2e14b"), looks := true }, told := true, laidByText := true, laidKinds := [.sentinel, .sentinel, .sentinel, .sentinel, .sentinel, .wider], laidTests := true, laidLooks := .later, goes := false }
def LawS5015BDamagedToldSaid : Prop := Claim7.holds Ybaf.pinned (.plain (OpenSpec.ofChange lawS5015BDamagedSpec)) lawS5015BDamagedCard
/-- ITS FALSE NEIGHBOUR. Refute it at one input. -/
def LawS5015BDamagedToldWrongFalsely : Prop := Claim7.holds Ybaf.pinned (.plain (OpenSpec.ofChange lawS5015BDamagedWrong)) lawS5015BDamagedCard

/-- THE TOLD AND TIED CARD OF 'capture.LawS5015CBody'. -/
def lawS5015CBodyCard : Claim7 := { stood := { row := lawS5015CBodyRow, standIns := [], harness := (true, "6abc8a5a49da5794575b6a23ae7f647e12332e3f651e64c3195d6b8547c2e14b"), looks := true }, told := true, laidByText := true, laidKinds := [.sentinel, .sentinel, .sentinel, .sentinel, .sentinel], laidTests := true, laidLooks := .later, goes := false }
def LawS5015CBodyToldSaid : Prop := Claim7.holds Ybaf.pinned (.plain (OpenSpec.ofChange lawS5015CBodySpec)) lawS5015CBodyCard
/-- ITS FALSE NEIGHBOUR. Refute it at one input. -/
def LawS5015CBodyToldWrongFalsely : Prop := Claim7.holds Ybaf.pinned (.plain (OpenSpec.ofChange lawS5015CBodyWrong)) lawS5015CBodyCard
end Rows
end Go.Proofs.YbulkcyvkFmt
