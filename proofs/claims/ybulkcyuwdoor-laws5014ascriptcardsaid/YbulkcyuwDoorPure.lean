/-
  Plain functions of float64 words: what math.xatan, satan, asin, acos, cos and modes.NL compute, as far as the road comes. 'none': a place to which the road does not come.
-/
import Derived.Test.YbulkcyuwDoorIvD
namespace Go.Proofs.YbulkcyuwDoor
open Ieee

abbrev fa (x y : Nat) : Option Nat := floatBits .add .f64 x y
abbrev fs (x y : Nat) : Option Nat := floatBits .sub .f64 x y
abbrev fm (x y : Nat) : Option Nat := floatBits .mul .f64 x y
abbrev fq (x y : Nat) : Option Nat := floatBits .quo .f64 x y
abbrev ford (x y : Nat) : Option Ordering := FloatKind.f64.format.order x y
abbrev fltB (x y : Nat) : Bool := ford x y == some .lt
abbrev fleB (x y : Nat) : Bool := ford x y == some .lt || ford x y == some .eq
abbrev fgtB (x y : Nat) : Bool := ford x y == some .gt
abbrev fgeB (x y : Nat) : Bool := ford x y == some .gt || ford x y == some .eq
abbrev feqB (x y : Nat) : Bool := ford x y == some .eq
abbrev fneg (x : Nat) : Nat := Op.negFloat .f64 x

theorem bind_to {α β : Type} {o : Option α} {a : α} {f : α → Option β} {r : β} (h : o = some a) (h2 : f a = some r) : o.bind f = some r := by rw [h]; exact h2

def xatanF (x : Nat) : Option Nat :=
  (fm x x).bind fun z => (fm 13829429103926125972 z).bind fun p0 => (fa p0 13848613196940411002).bind fun p1 => (fm p1 z).bind fun p2 => (fa p2 13858350711815275123).bind fun p3 =>
  (fm p3 z).bind fun p4 => (fa p4 13861719834326579749).bind fun p5 => (fm p5 z).bind fun p6 => (fa p6 13857635882265799822).bind fun p7 => (fm z p7).bind fun p8 =>
  (fa z 4627690253511319612).bind fun q0 => (fm q0 z).bind fun q1 => (fa q1 4640010388282866213).bind fun q2 => (fm q2 z).bind fun q3 => (fa q3 4646322940342877755).bind fun q4 =>
  (fm q4 z).bind fun q5 => (fa q5 4647246694406179306).bind fun q6 => (fm q6 z).bind fun q7 => (fa q7 4641049159275471596).bind fun q8 =>
  (fq p8 q8).bind fun u => (fm x u).bind fun v => fa v x

def satanF (x : Nat) : Option Nat :=
  if fleB x 4604119971053405471 then xatanF x
  else if fgtB x 4612618744449965542 then none
  else (fs x 4607182418800017408).bind fun a => (fa x 4607182418800017408).bind fun b => (fq a b).bind fun c => (xatanF c).bind fun d =>
    (fa 4605249457297304856 d).bind fun e => fa e 4359948597267291143

def asinC (y : Nat) : Option Nat :=
  if fgtB y 4607182418800017408 then none else
  (fm y y).bind fun a => (fs 4607182418800017408 a).bind fun b => (double.sqrt b).bind fun t =>
  if fgtB y 4604480259023595110 then (fq t y).bind fun c => (satanF c).bind fun d => fs 4609753056924675352 d
  else (fq y t).bind fun c => satanF c
def asinF (x : Nat) : Option Nat :=
  if feqB x 0 then some x else if fltB x 0 then (asinC (fneg x)).bind fun r => some (fneg r) else asinC x

def acosF (x : Nat) : Option Nat := (asinF x).bind fun a => fs 4609753056924675352 a

/-- The six factors of the sine, of the cosine. -/
def sinPoly (z zz : Nat) : Option Nat :=
  (fm z zz).bind fun a => (fm 4460209587652500685 zz).bind fun p0 => (fa p0 13716528389658582877).bind fun p1 => (fm p1 zz).bind fun p2 => (fa p2 4523617212962785441).bind fun p3 =>
  (fm p3 zz).bind fun p4 => (fa p4 13774824197404483331).bind fun p5 => (fm p5 zz).bind fun p6 => (fa p6 4575957461383575504).bind fun p7 => (fm p7 zz).bind fun p8 => (fa p8 13818544856648471880).bind fun p9 =>
  (fm a p9).bind fun b => fa z b
def cosPoly (zz : Nat) : Option Nat :=
  (fm 4602678819172646912 zz).bind fun h => (fs 4607182418800017408 h).bind fun g => (fm zz zz).bind fun a => (fm 13666448263388469915 zz).bind fun p0 => (fa p0 4477121864728985349).bind fun p1 => (fm p1 zz).bind fun p2 => (fa p2 13732177093698800582).bind fun p3 =>
  (fm p3 zz).bind fun p4 => (fa p4 4537941361668146421).bind fun p5 => (fm p5 zz).bind fun p6 => (fa p6 13787419979223748497).bind fun p7 => (fm p7 zz).bind fun p8 => (fa p8 4586165620538955083).bind fun p9 =>
  (fm a p9).bind fun b => fa g b
/-- The angle less y octants. -/
def octant (x y : Nat) : Option Nat :=
  (fm y 4605249456957292544).bind fun a => (fs x a).bind fun b => (fm y 4495793288086814720).bind fun c => (fs b c).bind fun d => (fm y 4388835458085048688).bind fun e => fs d e

def cos0F (x : Nat) : Option Nat := (octant x 0).bind fun z => (fm z z).bind fun zz => cosPoly zz
def cos2F (x : Nat) : Option Nat := (octant x 4611686018427387904).bind fun z => (fm z z).bind fun zz => (sinPoly z zz).bind fun y => some (fneg y)
/-- The cosine of a number from 0 to below half a turn's half. -/
def cosA (x : Nat) : Option Nat :=
  (fm x 4608412980311869571).bind fun p => (floatToIntVal .f64 p .u64).bind fun j =>
  if j = 0 then cos0F x else if j = 1 then cos2F x else none

def cosF (x : Nat) : Option Nat := if fineB x && decide (val (absW x) < val 4737786807993761792) then cosA (absW x) else none

def nlF (x : Nat) : Option Int :=
  let a := absW x
  if feqB a 0 then some 59 else if feqB a 4635822497680326656 then some 2 else if fgtB a 4635822497680326656 then some 1 else
  (fm 4614256656552045848 a).bind fun b => (fq b 4640537203540230144).bind fun d => (cosF d).bind fun c => (cosF 4592210274265328598).bind fun k =>
  (fs 4607182418800017408 k).bind fun e => (fm c c).bind fun cc => (fq e cc).bind fun t => (fs 4607182418800017408 t).bind fun u => (acosF u).bind fun v =>
  (fq 4618760256179416344 v).bind fun q => if fineB q then floatToIntVal .f64 (floorW q) .i64 else none

end Go.Proofs.YbulkcyuwDoor
