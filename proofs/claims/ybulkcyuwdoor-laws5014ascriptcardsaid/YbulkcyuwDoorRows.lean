/-
  NARROWER THAN 'FOR EVERY INPUT', by the rows' own cells (each row's printed sentence says how): LawS5014AScript: laid.
  DERIVED. THE GIVEN ROWS OF THIS SEAT. 1 by the template 'for every input the law returns true; each argument reads behind the call as it read before'; 0 by the template 'total and deterministic' (their statements: YbulkcyuwDoorTotals.lean).
  GIVEN WITH THE SEED: the statements are not yours to turn. If you find one false, say at which input.
  Laid BY PROGRAM, IN A SANDBOX (cutbox-rows.mjs): the forced cells as the released guide's own fill.sh prints them over the translation 5d5359c4eb2fac2e… (all of the seat's roots in one cut). By AI agents, Wed Nov 11 2026. No macro, syntax, notation, axiom, sorry.
-/
import Derived.Test.YbulkcyuwDoorChecked
import GoSem.Claim
import GoSem.ClaimJoined
import GoSem.ClaimMapViews
import Derived.JoinedTies
import Derived.KernelRfl
namespace Go.Proofs.YbulkcyuwDoor
/- THE CELL 'sum', in the pinned program and in every row, IS THE sha256 OF THE DUMP (.gsa) THAT YbulkcyuwDoorProg.lean LOADS. Nothing in Lean hashes anything: it is a label: what it is worth is what the hold of that sum in a sandbox is worth. -/
noncomputable def Ybad.pinned : Pinned := { name := "ybulkcyuwdoor", sum := "5d5359c4eb2fac2e9e74bddd4bfcb6577f71a5a4453191761d48b07e2979ea51", checked := Ybad.checked }
namespace Rows
def none {H : Type} : Left H := { results := [], args := [] }

/- WHAT THE LISTED PACKAGE-LEVEL VARIABLES READ AS WHEN THE CALL BEGINS. Each datum BY PROGRAM (the guide's laid-datum.mjs) off the statement by which the dump's own 'gosem.cut.vars' lays the variable. In a bare row this is a premise. The card (YbulkcyuwDoorCards.lean) ties it to the program's text. -/
def laid_math_pow10tab {H : Type} : DataW H := .agg [.lit (.float .f64 4607182418800017408), .lit (.float .f64 4621819117588971520), .lit (.float .f64 4636737291354636288), .lit (.float .f64 4652007308841189376), .lit (.float .f64 4666723172467343360), .lit (.float .f64 4681608360884174848), .lit (.float .f64 4696837146684686336), .lit (.float .f64 4711630319722168320), .lit (.float .f64 4726483295884279808), .lit (.float .f64 4741671816366391296), .lit (.float .f64 4756540486875873280), .lit (.float .f64 4771362005757984768), .lit (.float .f64 4786511204640096256), .lit (.float .f64 4801453603149578240), .lit (.float .f64 4816244402031689728), .lit (.float .f64 4831355200913801216), .lit (.float .f64 4846369599423283200), .lit (.float .f64 4861130398305394688), .lit (.float .f64 4876203697187506176), .lit (.float .f64 4891288408196988160), .lit (.float .f64 4906019910204099648), .lit (.float .f64 4921056587992461136), .lit (.float .f64 4936209963552724370), .lit (.float .f64 4950912855330343670), .lit (.float .f64 4965913770331839924), .lit (.float .f64 4981134201117475473), .lit (.float .f64 4995809153217856309), .lit (.float .f64 5010775143622804482), .lit (.float .f64 5026061058026967681), .lit (.float .f64 5040708725286295329), .lit (.float .f64 5055640609639927018), .lit (.float .f64 5070927765361438756)]
def laid_math_pow10postab32 {H : Type} : DataW H := .agg [.lit (.float .f64 4607182418800017408), .lit (.float .f64 5085611494797045271), .lit (.float .f64 5564284217833028085), .lit (.float .f64 6043257259031049059), .lit (.float .f64 6521906365687930162), .lit (.float .f64 7000496887210966211), .lit (.float .f64 7479368607221621995), .lit (.float .f64 7958223736346011545), .lit (.float .f64 8436737289693151036), .lit (.float .f64 8915514139102383430)]
def laid_math_pow10negtab32 {H : Type} : DataW H := .agg [.lit (.float .f64 4607182418800017408), .lit (.float .f64 4128101167230658355), .lit (.float .f64 3649340653511681853), .lit (.float .f64 3170840353250979498), .lit (.float .f64 2691949749288605597), .lit (.float .f64 2213095475689254516), .lit (.float .f64 1734519108376626298), .lit (.float .f64 1255832114822727210), .lit (.float .f64 776877706278891331), .lit (.float .f64 298220099847875929), .lit (.float .f64 2024)]
def laid_math_sin {H : Type} : DataW H := .agg [.lit (.float .f64 4460209587652500685), .lit (.float .f64 13716528389658582877), .lit (.float .f64 4523617212962785441), .lit (.float .f64 13774824197404483331), .lit (.float .f64 4575957461383575504), .lit (.float .f64 13818544856648471880)]
def laid_math_cos {H : Type} : DataW H := .agg [.lit (.float .f64 13666448263388469915), .lit (.float .f64 4477121864728985349), .lit (.float .f64 13732177093698800582), .lit (.float .f64 4537941361668146421), .lit (.float .f64 13787419979223748497), .lit (.float .f64 4586165620538955083)]
def laid_math_mPi4 {H : Type} : DataW H := .agg [.lit (.int .u64 1), .lit (.int .u64 5040379952546458195), .lit (.int .u64 17892431488136887169), .lit (.int .u64 13169980181085364355), .lit (.int .u64 18204331823439776451), .lit (.int .u64 7946843935494350272), .lit (.int .u64 905889640498799673), .lit (.int .u64 18175356263134875261), .lit (.int .u64 15061281708168349961), .lit (.int .u64 15220161563773041794), .lit (.int .u64 8296664548579374057), .lit (.int .u64 4109744767560208502), .lit (.int .u64 4607516669194743839), .lit (.int .u64 16023283104648321598), .lit (.int .u64 15739233654134936430), .lit (.int .u64 11424645774684705882), .lit (.int .u64 16883842788696515318), .lit (.int .u64 8795094592981902804), .lit (.int .u64 15561835991111744016), .lit (.int .u64 12395701187267450711)]

/-- 'squawkstream.LawS5014AScript': WHATEVER THE INPUT: true; the input reads as it did. -/
def lawS5014AScriptSpec : ChangeSpec := { name := "lawS5014AScript", fn := fun _ => fun
  | [d] => { results := [.lit (.bool true)], args := [d] }
  | _ => none }
def lawS5014AScriptRow : OpenClaim := { program := "ybulkcyuwdoor", sum := "5d5359c4eb2fac2e9e74bddd4bfcb6577f71a5a4453191761d48b07e2979ea51", func := "example.com/squawkstream/squawkstream.LawS5014AScript", spec := "lawS5014AScript", inPlace := ["math.archFloor", "math.Float64bits", "math.Float64frombits", "math.archTrunc", "math/bits.Add64", "math.sqrt"], named := ["math._sin", "math._cos", "math.mPi4", "math.pow10postab32", "math.pow10tab", "math.pow10negtab32"], apart := false, laid := [("math.pow10tab", laid_math_pow10tab), ("math.pow10postab32", laid_math_pow10postab32), ("math.pow10negtab32", laid_math_pow10negtab32), ("math._sin", laid_math_sin), ("math._cos", laid_math_cos), ("math.mPi4", laid_math_mPi4)] }
def LawS5014AScriptSaid : Prop := lawS5014AScriptRow.holds Ybad.pinned (OpenSpec.ofChange lawS5014AScriptSpec)

/-- ITS FALSE NEIGHBOUR: 'it returns false'. Refute it at one input. -/
def lawS5014AScriptWrong : ChangeSpec := { name := "lawS5014AScript", fn := fun _ => fun
  | [d] => { results := [.lit (.bool false)], args := [d] }
  | _ => none }
def LawS5014AScriptWrongFalsely : Prop := lawS5014AScriptRow.holds Ybad.pinned (OpenSpec.ofChange lawS5014AScriptWrong)

end Rows
end Go.Proofs.YbulkcyuwDoor
