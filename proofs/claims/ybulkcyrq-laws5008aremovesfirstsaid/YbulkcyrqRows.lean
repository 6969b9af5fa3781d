/-
  No cell of these rows narrows 'for every input' (looked for: loops, veiled, ifaces, maps, wideKeys, modest, calm, conditions, laid).
  DERIVED. THE GIVEN ROWS OF THIS SEAT. 3 by the template 'for every input the law returns true; each argument reads behind the call as it read before'; 0 by the template 'total and deterministic' (their statements: YbulkcyrqTotals.lean).
  GIVEN WITH THE SEED: the statements are not yours to turn. If you find one false, say at which input.
  Laid BY PROGRAM, IN A SANDBOX (cutbox-rows.mjs): the forced cells as the released guide's own fill.sh prints them over the translation 6f021b01930dc14b… (all of the seat's roots in one cut). By AI agents, Wed Nov 11 2026. No macro, syntax, notation, axiom, sorry.
-/
import Derived.Test.YbulkcyrqChecked
import GoSem.Claim
import GoSem.ClaimJoined
import GoSem.ClaimMapViews
import Derived.JoinedTies
import Derived.KernelRfl
namespace Go.Proofs.Ybulkcyrq
/- THE CELL 'sum', in the pinned program and in every row, IS THE sha256 OF THE DUMP (.gsa) THAT YbulkcyrqProg.lean LOADS. Nothing in Lean hashes anything: it is a label: what it is worth is what the hold of that sum in a sandbox is worth. -/
noncomputable def Yba.pinned : Pinned := { name := "ybulkcyrq", sum := "6f021b01930dc14b199e0c94f93f6c2de2e9f74c79f3fd36648b96b178028b1e", checked := Yba.checked }
namespace Rows
def none {H : Type} : Left H := { results := [], args := [] }

/-- 'dandelion-clock.LawS5008ARemovesFirst': WHATEVER THE INPUT: true; the input reads as it did. -/
def lawS5008ARemovesFirstSpec : ChangeSpec := { name := "lawS5008ARemovesFirst", fn := fun _ => fun
  | [d1, d2] => { results := [.lit (.bool true)], args := [d1, d2] }
  | _ => none }
def lawS5008ARemovesFirstRow : OpenClaim := { program := "ybulkcyrq", sum := "6f021b01930dc14b199e0c94f93f6c2de2e9f74c79f3fd36648b96b178028b1e", func := "example.com/dandelion-clock/dandelion-clock.LawS5008ARemovesFirst", spec := "lawS5008ARemovesFirst", apart := false }
def LawS5008ARemovesFirstSaid : Prop := lawS5008ARemovesFirstRow.holds Yba.pinned (OpenSpec.ofChange lawS5008ARemovesFirstSpec)

/-- ITS FALSE NEIGHBOUR: 'it returns false'. Refute it at one input. -/
def lawS5008ARemovesFirstWrong : ChangeSpec := { name := "lawS5008ARemovesFirst", fn := fun _ => fun
  | [d1, d2] => { results := [.lit (.bool false)], args := [d1, d2] }
  | _ => none }
def LawS5008ARemovesFirstWrongFalsely : Prop := lawS5008ARemovesFirstRow.holds Yba.pinned (OpenSpec.ofChange lawS5008ARemovesFirstWrong)

/-- 'dandelion-clock.LawS5008CModel': WHATEVER THE INPUT: true; the input reads as it did. -/
def lawS5008CModelSpec : ChangeSpec := { name := "lawS5008CModel", fn := fun _ => fun
  | [d1, d2, d3, d4, d5, d6] => { results := [.lit (.bool true)], args := [d1, d2, d3, d4, d5, d6] }
  | _ => none }
def lawS5008CModelRow : OpenClaim := { program := "ybulkcyrq", sum := "6f021b01930dc14b199e0c94f93f6c2de2e9f74c79f3fd36648b96b178028b1e", func := "example.com/dandelion-clock/dandelion-clock.LawS5008CModel", spec := "lawS5008CModel", apart := false }
def LawS5008CModelSaid : Prop := lawS5008CModelRow.holds Yba.pinned (OpenSpec.ofChange lawS5008CModelSpec)

/-- ITS FALSE NEIGHBOUR: 'it returns false'. Refute it at one input. -/
def lawS5008CModelWrong : ChangeSpec := { name := "lawS5008CModel", fn := fun _ => fun
  | [d1, d2, d3, d4, d5, d6] => { results := [.lit (.bool false)], args := [d1, d2, d3, d4, d5, d6] }
  | _ => none }
def LawS5008CModelWrongFalsely : Prop := lawS5008CModelRow.holds Yba.pinned (OpenSpec.ofChange lawS5008CModelWrong)

/-- 'dandelion-clock.LawS5008CTakenWidens': WHATEVER THE INPUT: true; the input reads as it did. -/
def lawS5008CTakenWidensSpec : ChangeSpec := { name := "lawS5008CTakenWidens", fn := fun _ => fun
  | [d1, d2, d3, d4, d5] => { results := [.lit (.bool true)], args := [d1, d2, d3, d4, d5] }
  | _ => none }
def lawS5008CTakenWidensRow : OpenClaim := { program := "ybulkcyrq", sum := "6f021b01930dc14b199e0c94f93f6c2de2e9f74c79f3fd36648b96b178028b1e", func := "example.com/dandelion-clock/dandelion-clock.LawS5008CTakenWidens", spec := "lawS5008CTakenWidens", apart := false }
def LawS5008CTakenWidensSaid : Prop := lawS5008CTakenWidensRow.holds Yba.pinned (OpenSpec.ofChange lawS5008CTakenWidensSpec)

/-- ITS FALSE NEIGHBOUR: 'it returns false'. Refute it at one input. -/
def lawS5008CTakenWidensWrong : ChangeSpec := { name := "lawS5008CTakenWidens", fn := fun _ => fun
  | [d1, d2, d3, d4, d5] => { results := [.lit (.bool false)], args := [d1, d2, d3, d4, d5] }
  | _ => none }
def LawS5008CTakenWidensWrongFalsely : Prop := lawS5008CTakenWidensRow.holds Yba.pinned (OpenSpec.ofChange lawS5008CTakenWidensWrong)

end Rows
end Go.Proofs.Ybulkcyrq
