/-
  No cell of these rows narrows 'for every input' (looked for: loops, veiled, ifaces, maps, wideKeys, modest, calm, conditions, laid).
  DERIVED. THE GIVEN ROWS OF THIS SEAT. 4 by the template 'for every input the law returns true; each argument reads behind the call as it read before'; 0 by the template 'total and deterministic' (their statements: YbulkcyrcTotals.lean).
  GIVEN WITH THE SEED: the statements are not yours to turn. If you find one false, say at which input.
  Laid BY PROGRAM, IN A SANDBOX (cutbox-rows.mjs): the forced cells as the released guide's own fill.sh prints them over the translation 602ec869723657a1… (all of the seat's roots in one cut). By AI agents, Wed Nov 11 2026. No macro, syntax, notation, axiom, sorry.
-/
import Derived.Test.YbulkcyrcChecked
import GoSem.Claim
import GoSem.ClaimJoined
import GoSem.ClaimMapViews
import Derived.JoinedTies
import Derived.KernelRfl
namespace Go.Proofs.Ybulkcyrc
/- THE CELL 'sum', in the pinned program and in every row, IS THE sha256 OF THE DUMP (.gsa) THAT YbulkcyrcProg.lean LOADS. Nothing in Lean hashes anything: it is a label: what it is worth is what the hold of that sum in a sandbox is worth. -/
noncomputable def Yba.pinned : Pinned := { name := "ybulkcyrc", sum := "602ec869723657a126425e8b51a0ef2f4f89ac5d5513a98f5e025447c0cb1322", checked := Yba.checked }
namespace Rows
def none {H : Type} : Left H := { results := [], args := [] }

/-- 'tlog.LawS5007BExact': WHATEVER THE INPUT: true; the input reads as it did. -/
def lawS5007BExactSpec : ChangeSpec := { name := "lawS5007BExact", fn := fun _ => fun
  | [d1, d2] => { results := [.lit (.bool true)], args := [d1, d2] }
  | _ => none }
def lawS5007BExactRow : OpenClaim := { program := "ybulkcyrc", sum := "602ec869723657a126425e8b51a0ef2f4f89ac5d5513a98f5e025447c0cb1322", func := "example.com/corroborate/corroborate/pkg/tlog.LawS5007BExact", spec := "lawS5007BExact", unfollowed := true, recurses := true, named := ["encoding/binary.BigEndian"], apart := false }
def LawS5007BExactSaid : Prop := lawS5007BExactRow.holds Yba.pinned (OpenSpec.ofChange lawS5007BExactSpec)

/-- ITS FALSE NEIGHBOUR: 'it returns false'. Refute it at one input. -/
def lawS5007BExactWrong : ChangeSpec := { name := "lawS5007BExact", fn := fun _ => fun
  | [d1, d2] => { results := [.lit (.bool false)], args := [d1, d2] }
  | _ => none }
def LawS5007BExactWrongFalsely : Prop := lawS5007BExactRow.holds Yba.pinned (OpenSpec.ofChange lawS5007BExactWrong)

/-- 'tlog.LawS5007BCover': WHATEVER THE INPUT: true; the input reads as it did. -/
def lawS5007BCoverSpec : ChangeSpec := { name := "lawS5007BCover", fn := fun _ => fun
  | [d1, d2] => { results := [.lit (.bool true)], args := [d1, d2] }
  | _ => none }
def lawS5007BCoverRow : OpenClaim := { program := "ybulkcyrc", sum := "602ec869723657a126425e8b51a0ef2f4f89ac5d5513a98f5e025447c0cb1322", func := "example.com/corroborate/corroborate/pkg/tlog.LawS5007BCover", spec := "lawS5007BCover", unfollowed := true, recurses := true, named := ["encoding/binary.BigEndian"], apart := false }
def LawS5007BCoverSaid : Prop := lawS5007BCoverRow.holds Yba.pinned (OpenSpec.ofChange lawS5007BCoverSpec)

/-- ITS FALSE NEIGHBOUR: 'it returns false'. Refute it at one input. -/
def lawS5007BCoverWrong : ChangeSpec := { name := "lawS5007BCover", fn := fun _ => fun
  | [d1, d2] => { results := [.lit (.bool false)], args := [d1, d2] }
  | _ => none }
def LawS5007BCoverWrongFalsely : Prop := lawS5007BCoverRow.holds Yba.pinned (OpenSpec.ofChange lawS5007BCoverWrong)

/-- 'loadtest.LawS5007CEighths': WHATEVER THE INPUT: true; the input reads as it did. -/
def lawS5007CEighthsSpec : ChangeSpec := { name := "lawS5007CEighths", fn := fun _ => fun
  | [d1, d2] => { results := [.lit (.bool true)], args := [d1, d2] }
  | _ => none }
def lawS5007CEighthsRow : OpenClaim := { program := "ybulkcyrc", sum := "602ec869723657a126425e8b51a0ef2f4f89ac5d5513a98f5e025447c0cb1322", func := "example.com/corroborate/corroborate/pkg/loadtest.LawS5007CEighths", spec := "lawS5007CEighths", inPlace := ["math.archCeil", "math.archFloor", "math.Float64bits", "math.Float64frombits", "math.archTrunc"], apart := false }
def LawS5007CEighthsSaid : Prop := lawS5007CEighthsRow.holds Yba.pinned (OpenSpec.ofChange lawS5007CEighthsSpec)

/-- ITS FALSE NEIGHBOUR: 'it returns false'. Refute it at one input. -/
def lawS5007CEighthsWrong : ChangeSpec := { name := "lawS5007CEighths", fn := fun _ => fun
  | [d1, d2] => { results := [.lit (.bool false)], args := [d1, d2] }
  | _ => none }
def LawS5007CEighthsWrongFalsely : Prop := lawS5007CEighthsRow.holds Yba.pinned (OpenSpec.ofChange lawS5007CEighthsWrong)

/-- 'loadtest.LawS5007CBelowZero': WHATEVER THE INPUT: true; the input reads as it did. -/
def lawS5007CBelowZeroSpec : ChangeSpec := { name := "lawS5007CBelowZero", fn := fun _ => fun
  | [d1, d2] => { results := [.lit (.bool true)], args := [d1, d2] }
  | _ => none }
def lawS5007CBelowZeroRow : OpenClaim := { program := "ybulkcyrc", sum := "602ec869723657a126425e8b51a0ef2f4f89ac5d5513a98f5e025447c0cb1322", func := "example.com/corroborate/corroborate/pkg/loadtest.LawS5007CBelowZero", spec := "lawS5007CBelowZero", inPlace := ["math.archCeil", "math.archFloor", "math.Float64bits", "math.Float64frombits", "math.archTrunc"], apart := false }
def LawS5007CBelowZeroSaid : Prop := lawS5007CBelowZeroRow.holds Yba.pinned (OpenSpec.ofChange lawS5007CBelowZeroSpec)

/-- ITS FALSE NEIGHBOUR: 'it returns false'. Refute it at one input. -/
def lawS5007CBelowZeroWrong : ChangeSpec := { name := "lawS5007CBelowZero", fn := fun _ => fun
  | [d1, d2] => { results := [.lit (.bool false)], args := [d1, d2] }
  | _ => none }
def LawS5007CBelowZeroWrongFalsely : Prop := lawS5007CBelowZeroRow.holds Yba.pinned (OpenSpec.ofChange lawS5007CBelowZeroWrong)

end Rows
end Go.Proofs.Ybulkcyrc
