/-
  NARROWER THAN 'FOR EVERY INPUT', by the rows' own cells (each row's printed sentence says how): LawS5015AFill: laid · LawS5015BEnhanced: laid · LawS5015BOther: laid · LawS5015BDamaged: laid · LawS5015CBody: laid.
  DERIVED. THE GIVEN ROWS OF THIS SEAT. 5 by the template 'for every input the law returns true; each argument reads behind the call as it read before'; 0 by the template 'total and deterministic' (their statements: YbulkcyvkFmtTotals.lean).
  GIVEN WITH THE SEED: the statements are not yours to turn. If you find one false, say at which input.
  Laid BY PROGRAM, IN A SANDBOX (cutbox-rows.mjs): the forced cells as the released guide's own fill.sh prints them over the translation a1bb0b16cff914c2… (all of the seat's roots in one cut). By AI agents, Wed Nov 11 2026. No macro, syntax, notation, axiom, sorry.
-/
import Derived.Test.YbulkcyvkFmtChecked
import GoSem.Claim
import GoSem.ClaimJoined
import GoSem.ClaimMapViews
import Derived.JoinedTies
import Derived.KernelRfl
namespace Go.Proofs.YbulkcyvkFmt
/- THE CELL 'sum', in the pinned program and in every row, IS THE sha256 OF THE DUMP (.gsa) THAT YbulkcyvkFmtProg.lean LOADS. Nothing in Lean hashes anything: it is a label: what it is worth is what the hold of that sum in a sandbox is worth. -/
noncomputable def Ybaf.pinned : Pinned := { name := "ybulkcyvkfmt", sum := "a1bb0b16cff914c231a7d8761a5bcf873d20d30746c4b9fd43890d3d300d1832", checked := Ybaf.checked }
namespace Rows
def none {H : Type} : Left H := { results := [], args := [] }

/- WHAT THE LISTED PACKAGE-LEVEL VARIABLES READ AS WHEN THE CALL BEGINS. Each datum BY PROGRAM (the guide's laid-datum.mjs) off the statement by which the dump's own 'gosem.cut.vars' lays the variable. In a bare row this is a premise. The card (YbulkcyvkFmtCards.lean) ties it to the program's text. -/
def laid_io_ErrShortBuffer {H : Type} : DataW H := .iface "*errors.errorString" (.ptr (.agg [.lit (.string [115, 104, 111, 114, 116, 32, 98, 117, 102, 102, 101, 114])]))
def laid_io_EOF {H : Type} : DataW H := .iface "*errors.errorString" (.ptr (.agg [.lit (.string [69, 79, 70])]))
def laid_io_ErrUnexpectedEOF {H : Type} : DataW H := .iface "*errors.errorString" (.ptr (.agg [.lit (.string [117, 110, 101, 120, 112, 101, 99, 116, 101, 100, 32, 69, 79, 70])]))
def laid_io_ErrShortWrite {H : Type} : DataW H := .iface "*errors.errorString" (.ptr (.agg [.lit (.string [115, 104, 111, 114, 116, 32, 119, 114, 105, 116, 101])]))
def laid_io_errInvalidWrite {H : Type} : DataW H := .iface "*errors.errorString" (.ptr (.agg [.lit (.string [105, 110, 118, 97, 108, 105, 100, 32, 119, 114, 105, 116, 101, 32, 114, 101, 115, 117, 108, 116])]))
def laid_io_Discard {H : Type} : DataW H := .iface "io.discard" (.agg [])
def laid_io_ErrNoProgress {H : Type} : DataW H := .iface "*errors.errorString" (.ptr (.agg [.lit (.string [109, 117, 108, 116, 105, 112, 108, 101, 32, 82, 101, 97, 100, 32, 99, 97, 108, 108, 115, 32, 114, 101, 116, 117, 114, 110, 32, 110, 111, 32, 100, 97, 116, 97, 32, 111, 114, 32, 101, 114, 114, 111, 114])]))
def laid_bufio_errNegativeRead {H : Type} : DataW H := .iface "*errors.errorString" (.ptr (.agg [.lit (.string [98, 117, 102, 105, 111, 58, 32, 114, 101, 97, 100, 101, 114, 32, 114, 101, 116, 117, 114, 110, 101, 100, 32, 110, 101, 103, 97, 116, 105, 118, 101, 32, 99, 111, 117, 110, 116, 32, 102, 114, 111, 109, 32, 82, 101, 97, 100])]))

/-- 'capture.LawS5015AFill': WHATEVER THE INPUT: true; the input reads as it did. -/
def lawS5015AFillSpec : ChangeSpec := { name := "lawS5015AFill", fn := fun _ => fun
  | [d1, d2, d3, d4] => { results := [.lit (.bool true)], args := [d1, d2, d3, d4] }
  | _ => none }
def lawS5015AFillRow : OpenClaim := { program := "ybulkcyvkfmt", sum := "a1bb0b16cff914c231a7d8761a5bcf873d20d30746c4b9fd43890d3d300d1832", func := "example.com/hopscribe/hopscribe/internal/capture.LawS5015AFill", spec := "lawS5015AFill", stops := ["fmt.Sprintf, its operands' methods called", "fmt.errorf, its operands' methods called"], inPlace := ["internal/reflectlite.TypeOf", "fmt.Sprintf", "fmt.errorf"], unfollowed := true, recurses := true, named := ["io.EOF", "io.ErrUnexpectedEOF", "io.ErrShortBuffer"], apart := false, laid := [("io.ErrShortBuffer", laid_io_ErrShortBuffer), ("io.EOF", laid_io_EOF), ("io.ErrUnexpectedEOF", laid_io_ErrUnexpectedEOF)] }
/-- NO THEOREM (fmt's text is open here; it may be false): for the released tool's asking of the row's closed facts alone. THE STATEMENT IS 'LawS5015AFillToldSaid' (YbulkcyvkFmtCards.lean). -/
def LawS5015AFillFormAsk : Prop := lawS5015AFillRow.holds Ybaf.pinned (OpenSpec.ofChange lawS5015AFillSpec)

/-- ITS FALSE NEIGHBOUR: 'it returns false'. Refute it at one input. -/
def lawS5015AFillWrong : ChangeSpec := { name := "lawS5015AFill", fn := fun _ => fun
  | [d1, d2, d3, d4] => { results := [.lit (.bool false)], args := [d1, d2, d3, d4] }
  | _ => none }
def LawS5015AFillWrongFormAsk : Prop := lawS5015AFillRow.holds Ybaf.pinned (OpenSpec.ofChange lawS5015AFillWrong)

/-- 'capture.LawS5015BEnhanced': WHATEVER THE INPUT: true; the input reads as it did. -/
def lawS5015BEnhancedSpec : ChangeSpec := { name := "lawS5015BEnhanced", fn := fun _ => fun
  | [d1, d2, d3, d4, d5] => { results := [.lit (.bool true)], args := [d1, d2, d3, d4, d5] }
  | _ => none }
def lawS5015BEnhancedRow : OpenClaim := { program := "ybulkcyvkfmt", sum := "a1bb0b16cff914c231a7d8761a5bcf873d20d30746c4b9fd43890d3d300d1832", func := "example.com/hopscribe/hopscribe/internal/capture.LawS5015BEnhanced", spec := "lawS5015BEnhanced", stops := ["fmt.Sprintf, its operands' methods called", "fmt.errorf, its operands' methods called"], inPlace := ["internal/reflectlite.TypeOf", "fmt.Sprintf", "fmt.errorf"], unfollowed := true, recurses := true, named := ["encoding/binary.BigEndian", "encoding/binary.LittleEndian", "io.EOF", "io.ErrUnexpectedEOF", "io.ErrShortBuffer", "io.Discard", "io.errInvalidWrite", "io.ErrShortWrite"], apart := false, laid := [("io.ErrShortWrite", laid_io_ErrShortWrite), ("io.errInvalidWrite", laid_io_errInvalidWrite), ("io.ErrShortBuffer", laid_io_ErrShortBuffer), ("io.EOF", laid_io_EOF), ("io.ErrUnexpectedEOF", laid_io_ErrUnexpectedEOF), ("io.Discard", laid_io_Discard)] }
/-- NO THEOREM (fmt's text is open here; it may be false): for the released tool's asking of the row's closed facts alone. THE STATEMENT IS 'LawS5015BEnhancedToldSaid' (YbulkcyvkFmtCards.lean). -/
def LawS5015BEnhancedFormAsk : Prop := lawS5015BEnhancedRow.holds Ybaf.pinned (OpenSpec.ofChange lawS5015BEnhancedSpec)

/-- ITS FALSE NEIGHBOUR: 'it returns false'. Refute it at one input. -/
def lawS5015BEnhancedWrong : ChangeSpec := { name := "lawS5015BEnhanced", fn := fun _ => fun
  | [d1, d2, d3, d4, d5] => { results := [.lit (.bool false)], args := [d1, d2, d3, d4, d5] }
  | _ => none }
def LawS5015BEnhancedWrongFormAsk : Prop := lawS5015BEnhancedRow.holds Ybaf.pinned (OpenSpec.ofChange lawS5015BEnhancedWrong)

/-- 'capture.LawS5015BOther': WHATEVER THE INPUT: true; the input reads as it did. -/
def lawS5015BOtherSpec : ChangeSpec := { name := "lawS5015BOther", fn := fun _ => fun
  | [d1, d2, d3, d4, d5, d6] => { results := [.lit (.bool true)], args := [d1, d2, d3, d4, d5, d6] }
  | _ => none }
def lawS5015BOtherRow : OpenClaim := { program := "ybulkcyvkfmt", sum := "a1bb0b16cff914c231a7d8761a5bcf873d20d30746c4b9fd43890d3d300d1832", func := "example.com/hopscribe/hopscribe/internal/capture.LawS5015BOther", spec := "lawS5015BOther", stops := ["fmt.Sprintf, its operands' methods called", "fmt.errorf, its operands' methods called"], inPlace := ["internal/reflectlite.TypeOf", "fmt.Sprintf", "fmt.errorf"], unfollowed := true, recurses := true, named := ["encoding/binary.BigEndian", "encoding/binary.LittleEndian", "io.EOF", "io.ErrUnexpectedEOF", "io.ErrShortBuffer", "io.Discard", "io.errInvalidWrite", "io.ErrShortWrite"], apart := false, laid := [("io.ErrShortWrite", laid_io_ErrShortWrite), ("io.errInvalidWrite", laid_io_errInvalidWrite), ("io.ErrShortBuffer", laid_io_ErrShortBuffer), ("io.EOF", laid_io_EOF), ("io.ErrUnexpectedEOF", laid_io_ErrUnexpectedEOF), ("io.Discard", laid_io_Discard)] }
/-- NO THEOREM (fmt's text is open here; it may be false): for the released tool's asking of the row's closed facts alone. THE STATEMENT IS 'LawS5015BOtherToldSaid' (YbulkcyvkFmtCards.lean). -/
def LawS5015BOtherFormAsk : Prop := lawS5015BOtherRow.holds Ybaf.pinned (OpenSpec.ofChange lawS5015BOtherSpec)

/-- ITS FALSE NEIGHBOUR: 'it returns false'. Refute it at one input. -/
def lawS5015BOtherWrong : ChangeSpec := { name := "lawS5015BOther", fn := fun _ => fun
  | [d1, d2, d3, d4, d5, d6] => { results := [.lit (.bool false)], args := [d1, d2, d3, d4, d5, d6] }
  | _ => none }
def LawS5015BOtherWrongFormAsk : Prop := lawS5015BOtherRow.holds Ybaf.pinned (OpenSpec.ofChange lawS5015BOtherWrong)

/-- 'capture.LawS5015BDamaged': WHATEVER THE INPUT: true; the input reads as it did. -/
def lawS5015BDamagedSpec : ChangeSpec := { name := "lawS5015BDamaged", fn := fun _ => fun
  | [d1, d2, d3] => { results := [.lit (.bool true)], args := [d1, d2, d3] }
  | _ => none }
def lawS5015BDamagedRow : OpenClaim := { program := "ybulkcyvkfmt", sum := "a1bb0b16cff914c231a7d8761a5bcf873d20d30746c4b9fd43890d3d300d1832", func := "example.com/hopscribe/hopscribe/internal/capture.LawS5015BDamaged", spec := "lawS5015BDamaged", stops := ["fmt.Sprintf, its operands' methods called", "fmt.errorf, its operands' methods called"], inPlace := ["internal/reflectlite.TypeOf", "fmt.Sprintf", "fmt.errorf"], unfollowed := true, recurses := true, named := ["encoding/binary.BigEndian", "encoding/binary.LittleEndian", "io.EOF", "io.ErrUnexpectedEOF", "io.ErrShortBuffer", "io.Discard", "io.errInvalidWrite", "io.ErrShortWrite"], apart := false, laid := [("io.ErrShortWrite", laid_io_ErrShortWrite), ("io.errInvalidWrite", laid_io_errInvalidWrite), ("io.ErrShortBuffer", laid_io_ErrShortBuffer), ("io.EOF", laid_io_EOF), ("io.ErrUnexpectedEOF", laid_io_ErrUnexpectedEOF), ("io.Discard", laid_io_Discard)] }
/-- NO THEOREM (fmt's text is open here; it may be false): for the released tool's asking of the row's closed facts alone. THE STATEMENT IS 'LawS5015BDamagedToldSaid' (YbulkcyvkFmtCards.lean). -/
def LawS5015BDamagedFormAsk : Prop := lawS5015BDamagedRow.holds Ybaf.pinned (OpenSpec.ofChange lawS5015BDamagedSpec)

/-- ITS FALSE NEIGHBOUR: 'it returns false'. Refute it at one input. -/
def lawS5015BDamagedWrong : ChangeSpec := { name := "lawS5015BDamaged", fn := fun _ => fun
  | [d1, d2, d3] => { results := [.lit (.bool false)], args := [d1, d2, d3] }
  | _ => none }
def LawS5015BDamagedWrongFormAsk : Prop := lawS5015BDamagedRow.holds Ybaf.pinned (OpenSpec.ofChange lawS5015BDamagedWrong)

/-- 'capture.LawS5015CBody': WHATEVER THE INPUT: true; the input reads as it did. -/
def lawS5015CBodySpec : ChangeSpec := { name := "lawS5015CBody", fn := fun _ => fun
  | [d1, d2, d3, d4, d5] => { results := [.lit (.bool true)], args := [d1, d2, d3, d4, d5] }
  | _ => none }
def lawS5015CBodyRow : OpenClaim := { program := "ybulkcyvkfmt", sum := "a1bb0b16cff914c231a7d8761a5bcf873d20d30746c4b9fd43890d3d300d1832", func := "example.com/hopscribe/hopscribe/internal/capture.LawS5015CBody", spec := "lawS5015CBody", stops := ["fmt.Sprintf, its operands' methods called", "fmt.errorf, its operands' methods called"], inPlace := ["fmt.errorf", "internal/reflectlite.TypeOf", "fmt.Sprintf"], unfollowed := true, recurses := true, named := ["encoding/binary.LittleEndian", "encoding/binary.BigEndian", "io.EOF", "io.ErrUnexpectedEOF", "io.ErrShortBuffer", "bufio.errNegativeRead", "io.ErrNoProgress"], apart := false, laid := [("io.ErrShortBuffer", laid_io_ErrShortBuffer), ("io.EOF", laid_io_EOF), ("io.ErrUnexpectedEOF", laid_io_ErrUnexpectedEOF), ("io.ErrNoProgress", laid_io_ErrNoProgress), ("bufio.errNegativeRead", laid_bufio_errNegativeRead)] }
/-- NO THEOREM (fmt's text is open here; it may be false): for the released tool's asking of the row's closed facts alone. THE STATEMENT IS 'LawS5015CBodyToldSaid' (YbulkcyvkFmtCards.lean). -/
def LawS5015CBodyFormAsk : Prop := lawS5015CBodyRow.holds Ybaf.pinned (OpenSpec.ofChange lawS5015CBodySpec)

/-- ITS FALSE NEIGHBOUR: 'it returns false'. Refute it at one input. -/
def lawS5015CBodyWrong : ChangeSpec := { name := "lawS5015CBody", fn := fun _ => fun
  | [d1, d2, d3, d4, d5] => { results := [.lit (.bool false)], args := [d1, d2, d3, d4, d5] }
  | _ => none }
def LawS5015CBodyWrongFormAsk : Prop := lawS5015CBodyRow.holds Ybaf.pinned (OpenSpec.ofChange lawS5015CBodyWrong)

end Rows
end Go.Proofs.YbulkcyvkFmt
