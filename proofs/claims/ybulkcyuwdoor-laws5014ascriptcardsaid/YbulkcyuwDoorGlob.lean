/-
  What GlobalAirborne and LocalAirborne compute, as plain functions of words; that they are defined wherever the road comes, and where their answers lie.
-/
import Derived.Test.YbulkcyuwDoorModE
import Derived.Test.YbulkcyuwDoorZone
namespace Go.Proofs.YbulkcyuwDoor
open Ieee

def jF (yE yO : Nat) : Option Nat :=
  (fm 4633500329122463744 yE).bind fun a => (fm 4633641066610819072 yO).bind fun b => (fs a b).bind fun c => (fa c 4602678819172646912).bind fun d => if fineB d then some (floorW d) else none
def latF (c j : Nat) (n : Int) (y : Nat) : Option Nat :=
  (floorModF j n).bind fun m => (fa m y).bind fun s => (fm c s).bind fun t => wrapF t 4643457506423603200
def lonF (nl zones : Int) (xE xO xz : Nat) : Option Nat :=
  (fm xE (floatOfInt .f64 (nl - 1))).bind fun a => (fm xO (floatOfInt .f64 nl)).bind fun b => (fs a b).bind fun c => (fa c 4602678819172646912).bind fun d =>
  if fineB d then (fq 4645040803167600640 (floatOfInt .f64 zones)).bind fun z => (floorModF (floorW d) zones).bind fun m => (fa m xz).bind fun s => (fm z s).bind fun t => wrapF t 4640537203540230144 else none
def nlOk (n : Int) : Bool := decide (0 ≤ n) && decide (n ≤ 1000)
theorem nlOk_of {n : Int} (h1 : 1 ≤ n) (h2 : n ≤ 70) : nlOk n = true := by
  unfold nlOk; rw [decide_eq_true (by omega), decide_eq_true (by omega)]; rfl
def globalG (odd : Bool) (eLat eLon oLat oLon : Nat) : Option (Nat × Nat × Bool) :=
  (frac eLat).bind fun yE => (frac oLat).bind fun yO => (jF yE yO).bind fun j => (latF 4618441417868443648 j 60 yE).bind fun latE => (latF 4618555916164054762 j 59 yO).bind fun latO =>
  if fineB latE && fineB latO then
    if fgtB (absW latE) 4636033603912859648 then some (0, 0, false) else if fgtB (absW latO) 4636033603912859648 then some (0, 0, false) else
    (nlF latE).bind fun nE => (nlF latO).bind fun nO => if nE = nO then
      (frac eLon).bind fun xE => (frac oLon).bind fun xO => (nlF (if odd then latO else latE)).bind fun nl =>
      if nlOk nl then (lonF nl (max (nl - (if odd then 1 else 0)) 1) xE xO (if odd then xO else xE)).bind fun lon => some (if odd then latO else latE, lon, true) else none
    else some (0, 0, false)
  else none
def globalF (nOdd : Bool) (nLat nLon : Nat) (oOdd : Bool) (oLat oLon : Nat) : Option (Nat × Nat × Bool) :=
  if nOdd == oOdd then some (0, 0, false) else if nOdd then globalG true oLat oLon nLat nLon else globalG false nLat nLon oLat oLon

def localB (la lo : Nat) : Option (Nat × Nat × Bool) :=
  if fgeB lo 4640537203540230144 then (fs lo 4645040803167600640).bind fun r => some (la, r, true)
  else if fltB lo 13863909240395005952 then (fa lo 4645040803167600640).bind fun r => some (la, r, true)
  else some (la, lo, true)
def localF (odd : Bool) (lat lon rLat rLon : Nat) : Option (Nat × Nat × Bool) :=
  (frac lat).bind fun yz => (frac lon).bind fun xz =>
  (fq 4645040803167600640 (floatOfInt .f64 (60 - (if odd then 1 else 0)))).bind fun z => (fq rLat z).bind fun q => (nearestF q yz).bind fun n => (fa n yz).bind fun s => (fm z s).bind fun la =>
  if fineB la then
    if fgtB (absW la) 4636033603912859648 then some (0, 0, false) else
    (nlF la).bind fun nl => if nlOk nl then (fq 4645040803167600640 (floatOfInt .f64 (max (nl - (if odd then 1 else 0)) 1))).bind fun lz => (fq rLon lz).bind fun q2 => (nearestF q2 xz).bind fun m => (fa m xz).bind fun s2 => (fm lz s2).bind fun lo => localB la lo else none
  else none

theorem frac_any {k : Nat} (h : k ≤ 131071) : ∃ r, frac k = some r ∧ Bt 0 r 4607182418800017408 := by
  obtain ⟨r, hr, br⟩ := frac_bt 0 131071 0 4607182418800017408 (Nat.zero_le _) h (by kernel_rfl)
  exact ⟨r, hr, br⟩

theorem floor_bt {a x b : Nat} (lo hi : Int) (L H : Nat) (h : Bt a x b) (hc : (fineB L && fineB H && decide (val L = lo * scale) && decide (val H = hi * scale) && decide (lo * scale ≤ val a) && decide (val b < (hi + 1) * scale)) = true) :
    ∃ s M, floorW x = double.nearest s M 0 ∧ lo ≤ sgn s M ∧ sgn s M ≤ hi ∧ Bt L (floorW x) H := by
  simp only [Bool.and_eq_true, decide_eq_true_eq] at hc
  obtain ⟨⟨⟨⟨⟨c1, c2⟩, c3⟩, c4⟩, c5⟩, c6⟩ := hc
  obtain ⟨s, M, e, h1, h2⟩ := floor_between h.fine (lo := lo) (hi := hi) (Int.le_trans c5 h.lo) (Int.lt_of_le_of_lt h.hi c6)
  have hs := scale_pos
  refine ⟨s, M, e, h1, h2, ?_⟩
  rw [e]
  exact near_whole (fine_of c1) (fine_of c2) (by rw [c3]; exact Int.mul_le_mul_of_nonneg_right h1 (Int.le_of_lt hs)) (by rw [c4]; exact Int.mul_le_mul_of_nonneg_right h2 (Int.le_of_lt hs))

theorem jF_bt {yE yO : Nat} (bE : Bt 0 yE 4607182418800017408) (bO : Bt 0 yO 4607182418800017408) : ∃ s M, jF yE yO = some (double.nearest s M 0) ∧ M < 72 := by
  obtain ⟨a, ha, ba⟩ := mul_bt 0 4633500329122463744 (Bt.const (k := 4633500329122463744) (by kernel_rfl)) bE (by kernel_rfl)
  obtain ⟨b, hb, bb⟩ := mul_bt 0 4633641066610819072 (Bt.const (k := 4633641066610819072) (by kernel_rfl)) bO (by kernel_rfl)
  obtain ⟨c, hc, bc⟩ := sub_bt 13857013103465594880 4633500329122463744 ba bb (by kernel_rfl)
  obtain ⟨d, hd, bd⟩ := add_bt 13856942734721417216 4633570697866641408 bc (Bt.const (k := 4602678819172646912) (by kernel_rfl)) (by kernel_rfl)
  obtain ⟨s, M, e, h1, h2, _⟩ := floor_bt (-60) 59 13857013103465594880 4633500329122463744 bd (by kernel_rfl)
  refine ⟨s, M, ?_, sgn_abs h1 h2 (by decide) (by decide)⟩
  refine bind_to ha (bind_to hb (bind_to hc (bind_to hd ?_)))
  rw [if_pos (fineB_of bd.fine), e]

theorem latE_bt {s : Bool} {M k y : Nat} (hM : M < 72) (hk : k ≤ 131071) (hy : frac k = some y) : ∃ r, latF 4618441417868443648 (double.nearest s M 0) 60 y = some r ∧ Gap r ∧ Bt 13859405640767635456 r 4643475098609647616 := by
  obtain ⟨m, M', hm, hf, hv, hlt⟩ := floorMod_bt (s := s) (n := 60) hM (by decide) (by decide)
  obtain ⟨sm, hs, t, ht, hgap⟩ := ev_gap (N := (M' : Int)) hf hv (by omega) (by omega) hk hy
  obtain ⟨y', hy', by_⟩ := frac_any hk
  have ey : y' = y := Option.some.inj (hy'.symm.trans hy)
  subst ey
  have bm : Bt 0 m 4633641066610819072 := whole_between (lo := 0) (hi := 60) hf hv (by omega) (by omega) (by kernel_rfl)
  obtain ⟨s1, hs1, bs⟩ := add_bt 0 4633781804099174400 bm by_ (by kernel_rfl)
  have es : s1 = sm := Option.some.inj (hs1.symm.trans hs)
  subst es
  obtain ⟨t1, ht1, bt⟩ := mul_bt 0 4645269501586178048 (Bt.const (k := 4618441417868443648) (by kernel_rfl)) bs (by kernel_rfl)
  have et : t1 = t := Option.some.inj (ht1.symm.trans ht)
  subst et
  have ht0 : 0 ≤ val t1 := by have := bt.lo; have v0 : val 0 = 0 := by decide
                              omega
  obtain ⟨r, hr, hg, br⟩ := gap_wrap hgap ht0
  exact ⟨r, bind_to hm (bind_to hs (bind_to ht hr)), hg, br⟩

theorem latO_bt {s : Bool} {M k y : Nat} (hM : M < 72) (hk : k ≤ 131071) (hy : frac k = some y) : ∃ r, latF 4618555916164054762 (double.nearest s M 0) 59 y = some r ∧ Gap r ∧ Bt 13859405640767635456 r 4643475098609647616 := by
  obtain ⟨m, M', hm, hf, hv, hlt⟩ := floorMod_bt (s := s) (n := 59) hM (by decide) (by decide)
  obtain ⟨sm, hs, t, ht, hgap⟩ := od_gap (N := (M' : Int)) hf hv (by omega) (by omega) hk hy
  obtain ⟨y', hy', by_⟩ := frac_any hk
  have ey : y' = y := Option.some.inj (hy'.symm.trans hy)
  subst ey
  have bm : Bt 0 m 4633641066610819072 := whole_between (lo := 0) (hi := 60) hf hv (by omega) (by omega) (by kernel_rfl)
  obtain ⟨s1, hs1, bs⟩ := add_bt 0 4633781804099174400 bm by_ (by kernel_rfl)
  have es : s1 = sm := Option.some.inj (hs1.symm.trans hs)
  subst es
  obtain ⟨t1, ht1, bt⟩ := mul_bt 0 4645269501586178048 (Bt.const (k := 4618555916164054762) (by kernel_rfl)) bs (by kernel_rfl)
  have et : t1 = t := Option.some.inj (ht1.symm.trans ht)
  subst et
  have ht0 : 0 ≤ val t1 := by have := bt.lo; have v0 : val 0 = 0 := by decide
                              omega
  obtain ⟨r, hr, hg, br⟩ := gap_wrap hgap ht0
  exact ⟨r, bind_to hm (bind_to hs (bind_to ht hr)), hg, br⟩

/-- The word of an integer from 0 to 71. -/
theorem int_bt {n lo hi : Int} {L H : Nat} (h0 : 0 ≤ lo) (h1 : lo ≤ n) (h2 : n ≤ hi) (h3 : hi ≤ 71) (hc : (decide (val L = lo * scale) && decide (val H = hi * scale)) = true) : Bt L (floatOfInt .f64 n) H := by
  obtain ⟨k, rfl⟩ := Int.eq_ofNat_of_zero_le (show 0 ≤ n by omega)
  have := wn_fine (M := k) (by omega)
  exact whole_between (N := (k : Int)) this.1 this.2 h1 h2 hc

theorem lonF_bt {nl zones : Int} {xE xO xz : Nat} (n1 : 1 ≤ nl) (n2 : nl ≤ 70) (z1 : 1 ≤ zones) (z2 : zones ≤ 70) (bE : Bt 0 xE 4607182418800017408) (bO : Bt 0 xO 4607182418800017408) (bz : Bt 0 xz 4607182418800017408) :
    ∃ r, lonF nl zones xE xO xz = some r ∧ Bt 13864612927836782592 r 4672876039536377856 := by
  have bn1 : Bt 0 (floatOfInt .f64 (nl - 1)) 4634555860285128704 := int_bt (lo := 0) (hi := 69) (by omega) (by omega) (by omega) (by omega) (by kernel_rfl)
  have bn : Bt 4607182418800017408 (floatOfInt .f64 nl) 4634626229029306368 := int_bt (lo := 1) (hi := 70) (by omega) (by omega) (by omega) (by omega) (by kernel_rfl)
  have bzn : Bt 4607182418800017408 (floatOfInt .f64 zones) 4634626229029306368 := int_bt (lo := 1) (hi := 70) (by omega) (by omega) (by omega) (by omega) (by kernel_rfl)
  obtain ⟨a, ha, ba⟩ := mul_bt 0 4634555860285128704 bE bn1 (by kernel_rfl)
  obtain ⟨b, hb, bb⟩ := mul_bt 0 4634626229029306368 bO bn (by kernel_rfl)
  obtain ⟨c, hc, bc⟩ := sub_bt 13857998265884082176 4634555860285128704 ba bb (by kernel_rfl)
  obtain ⟨d, hd, bd⟩ := add_bt 13857963081511993344 4634591044657217536 bc (Bt.const (k := 4602678819172646912) (by kernel_rfl)) (by kernel_rfl)
  obtain ⟨s, M, e, h1, h2, _⟩ := floor_bt (-70) 69 13857998265884082176 4634555860285128704 bd (by kernel_rfl)
  have hM : M < 72 := sgn_abs h1 h2 (by decide) (by decide)
  obtain ⟨z, hz, bzz⟩ := div_bt 4617315517961601024 4645040803167600640 (Bt.const (k := 4645040803167600640) (by kernel_rfl)) bzn (by kernel_rfl)
  obtain ⟨zn, rfl⟩ := Int.eq_ofNat_of_zero_le (show 0 ≤ zones by omega)
  obtain ⟨m, M', hm, hf, hv, hlt⟩ := floorMod_bt (s := s) (n := zn) hM (by omega) (by omega)
  have bm : Bt 0 m 4634626229029306368 := whole_between (lo := 0) (hi := 70) hf hv (by omega) (by omega) (by kernel_rfl)
  obtain ⟨sm, hs, bs⟩ := add_bt 0 4634696597773484032 bm bz (by kernel_rfl)
  obtain ⟨t, ht, bt⟩ := mul_bt 0 4672755093257322496 bzz bs (by kernel_rfl)
  have f180 : Fine 4640537203540230144 := fine_of (by kernel_rfl)
  have hwr : ∃ r, wrapF t 4640537203540230144 = some r ∧ Bt 13864612927836782592 r 4672876039536377856 := by
    unfold wrapF
    rw [fgeB_fine bt.fine f180]
    by_cases hc : val 4640537203540230144 ≤ val t
    · rw [if_pos (decide_eq_true hc)]
      obtain ⟨r, hr, br⟩ := sub_bt 13863909240395005952 4672656137210822656 (x := t) ⟨bt.fine, hc, bt.hi⟩ (Bt.const (k := 4645040803167600640) (by kernel_rfl)) (by kernel_rfl)
      exact ⟨r, hr, br.weak (by kernel_rfl)⟩
    · rw [if_neg (by simpa using hc)]
      exact ⟨t, rfl, bt.weak (by kernel_rfl)⟩
  obtain ⟨r, hr, br⟩ := hwr
  refine ⟨r, ?_, br⟩
  refine bind_to ha (bind_to hb (bind_to hc (bind_to hd ?_)))
  rw [if_pos (fineB_of bd.fine), e]
  exact bind_to hz (bind_to hm (bind_to hs (bind_to ht hr)))

/-- Within the poles. -/
theorem pole_bt {x : Nat} (hx : Fine x) (h : ¬ (fgtB (absW x) 4636033603912859648 = true)) : Bt 13859405640767635456 x 4636033603912859648 := by
  rw [fgtB_fine (absW_fine hx) (fine_of (by kernel_rfl)), decide_eq_true_eq, absW_abs] at h
  have hm : val 13859405640767635456 = -val 4636033603912859648 := of_decide_eq_true (by kernel_rfl)
  have hp : val 4636033603912859648 = val 4636033603912859648 := rfl
  refine ⟨hx, ?_, ?_⟩
  · split at h <;> omega
  · split at h <;> omega

theorem globalG_bt (odd : Bool) {eLat eLon oLat oLon : Nat} (h1 : eLat ≤ 131071) (h2 : eLon ≤ 131071) (h3 : oLat ≤ 131071) (h4 : oLon ≤ 131071) :
    ∃ la lo ok, globalG odd eLat eLon oLat oLon = some (la, lo, ok) ∧ (ok = true → Bt 13859405640767635456 la 4636033603912859648 ∧ Bt 13864612927836782592 lo 4672876039536377856) ∧ (ok = false → la = 0 ∧ lo = 0) := by
  obtain ⟨yE, hyE, bE⟩ := frac_any h1
  obtain ⟨yO, hyO, bO⟩ := frac_any h3
  obtain ⟨s, M, hj, hM⟩ := jF_bt bE bO
  obtain ⟨latE, hlE, gE, _⟩ := latE_bt (s := s) hM h1 hyE
  obtain ⟨latO, hlO, gO, _⟩ := latO_bt (s := s) hM h3 hyO
  have fE := gap_nl gE
  have fO := gap_nl gO
  have open_ : ∀ p, ((if fineB latE && fineB latO then
    if fgtB (absW latE) 4636033603912859648 then some (0, 0, false) else if fgtB (absW latO) 4636033603912859648 then some (0, 0, false) else
    (nlF latE).bind fun nE => (nlF latO).bind fun nO => if nE = nO then
      (frac eLon).bind fun xE => (frac oLon).bind fun xO => (nlF (if odd then latO else latE)).bind fun nl =>
      if nlOk nl then (lonF nl (max (nl - (if odd then 1 else 0)) 1) xE xO (if odd then xO else xE)).bind fun lon => some (if odd then latO else latE, lon, true) else none
    else some (0, 0, false)
  else none) = some p) → globalG odd eLat eLon oLat oLon = some p := fun p hp => bind_to hyE (bind_to hyO (bind_to hj (bind_to hlE (bind_to hlO hp))))
  rw [if_pos (show (fineB latE && fineB latO) = true by rw [fineB_of fE.1, fineB_of fO.1]; rfl)] at open_
  by_cases c1 : fgtB (absW latE) 4636033603912859648 = true
  · rw [if_pos c1] at open_
    exact ⟨0, 0, false, open_ _ rfl, fun h => (by cases h), fun _ => ⟨rfl, rfl⟩⟩
  rw [if_neg c1] at open_
  by_cases c2 : fgtB (absW latO) 4636033603912859648 = true
  · rw [if_pos c2] at open_
    exact ⟨0, 0, false, open_ _ rfl, fun h => (by cases h), fun _ => ⟨rfl, rfl⟩⟩
  rw [if_neg c2] at open_
  obtain ⟨nE, hnE, nE1, nE2⟩ := nl_bt fE.1 fE.2
  obtain ⟨nO, hnO, nO1, nO2⟩ := nl_bt fO.1 fO.2
  by_cases c3 : nE = nO
  · obtain ⟨xE, hxE, bxE⟩ := frac_any h2
    obtain ⟨xO, hxO, bxO⟩ := frac_any h4
    have hnl : ∃ nl, nlF (if odd then latO else latE) = some nl ∧ 1 ≤ nl ∧ nl ≤ 70 := by
      cases odd
      · exact ⟨nE, hnE, nE1, nE2⟩
      · exact ⟨nO, hnO, nO1, nO2⟩
    obtain ⟨nl, hnl, l1, l2⟩ := hnl
    obtain ⟨lon, hlon, blon⟩ := lonF_bt (nl := nl) (zones := max (nl - (if odd then 1 else 0)) 1) (xE := xE) (xO := xO) (xz := if odd then xO else xE) l1 l2 (by omega) (by split <;> omega) bxE bxO (by cases odd; exact bxE; exact bxO)
    refine ⟨if odd then latO else latE, lon, true, open_ _ (bind_to hnE (bind_to hnO ?_)), fun _ => ⟨?_, blon⟩, fun h => (by cases h)⟩
    · rw [if_pos c3]
      refine bind_to hxE (bind_to hxO (bind_to hnl ?_))
      rw [if_pos (nlOk_of l1 l2)]
      exact bind_to hlon rfl
    · cases odd
      · exact pole_bt fE.1 c1
      · exact pole_bt fO.1 c2
  · refine ⟨0, 0, false, open_ _ (bind_to hnE (bind_to hnO ?_)), fun h => (by cases h), fun _ => ⟨rfl, rfl⟩⟩
    rw [if_neg c3]

theorem globalF_bt (nOdd oOdd : Bool) {nLat nLon oLat oLon : Nat} (h1 : nLat ≤ 131071) (h2 : nLon ≤ 131071) (h3 : oLat ≤ 131071) (h4 : oLon ≤ 131071) :
    ∃ la lo ok, globalF nOdd nLat nLon oOdd oLat oLon = some (la, lo, ok) ∧ (ok = true → Bt 13859405640767635456 la 4636033603912859648 ∧ Bt 13864612927836782592 lo 4672876039536377856) ∧ (ok = false → la = 0 ∧ lo = 0) := by
  unfold globalF
  by_cases c : (nOdd == oOdd) = true
  · rw [if_pos c]
    exact ⟨0, 0, false, rfl, fun h => (by cases h), fun _ => ⟨rfl, rfl⟩⟩
  · rw [if_neg c]
    cases nOdd
    · rw [if_neg Bool.false_ne_true]; exact globalG_bt false h1 h2 h3 h4
    · rw [if_pos rfl]; exact globalG_bt true h3 h4 h1 h2

theorem near_bt {a q b yz : Nat} (lo hi : Int) (L1 H1 L2 H2 L H : Nat) (bq : Bt a q b) (by_ : Bt 0 yz 4607182418800017408)
    (hc1 : chkSub a b 0 4607182418800017408 L1 H1 = true) (hc2 : chkAdd L1 H1 4602678819172646912 4602678819172646912 L2 H2 = true)
    (hc3 : (fineB L && fineB H && decide (val L = lo * scale) && decide (val H = hi * scale) && decide (lo * scale ≤ val L2) && decide (val H2 < (hi + 1) * scale)) = true) :
    ∃ s M, nearestF q yz = some (double.nearest s M 0) ∧ lo ≤ sgn s M ∧ sgn s M ≤ hi ∧ Bt L (double.nearest s M 0) H := by
  obtain ⟨c, hc, bc⟩ := sub_bt L1 H1 bq by_ hc1
  obtain ⟨d, hd, bd⟩ := add_bt L2 H2 bc (Bt.const (k := 4602678819172646912) (by kernel_rfl)) hc2
  obtain ⟨s, M, e, h1, h2, h3⟩ := floor_bt lo hi L H bd hc3
  refine ⟨s, M, bind_to hc (bind_to hd ?_), h1, h2, by rw [← e]; exact h3⟩
  rw [if_pos (fineB_of bd.fine), e]

theorem localF_bt (odd : Bool) {lat lon rLat rLon : Nat} (h1 : lat ≤ 131071) (h2 : lon ≤ 131071) (bLa : Bt 13859405640767635456 rLat 4636033603912859648) (bLo : Bt 13864612927836782592 rLon 4672876039536377856) :
    ∃ la lo ok, localF odd lat lon rLat rLon = some (la, lo, ok) ∧ (ok = true → Bt 13859405640767635456 la 4636033603912859648 ∧ Bt 13935002356576944128 lo 4711630319722168320) ∧ (ok = false → la = 0 ∧ lo = 0) := by
  obtain ⟨yz, hyz, byz⟩ := frac_any h1
  obtain ⟨xz, hxz, bxz⟩ := frac_any h2
  have first : ∃ z q n s la, fq 4645040803167600640 (floatOfInt .f64 (60 - (if odd then 1 else 0))) = some z ∧ fq rLat z = some q ∧ nearestF q yz = some n ∧ fa n yz = some s ∧ fm z s = some la ∧ Gap la := by
    cases odd
    · have hz : fq 4645040803167600640 (floatOfInt .f64 (60 - (if false = true then 1 else 0))) = some 4618441417868443648 := by kernel_rfl
      obtain ⟨q, hq, bq⟩ := div_bt 13848005904210853888 4624633867356078080 bLa (Bt.const (k := 4618441417868443648) (by kernel_rfl)) (by kernel_rfl)
      obtain ⟨s, M, hn, n1, n2, bn⟩ := near_bt (-16) 15 13848568854164275200 4624633867356078080 13848287379187564544 4624915342332788736 13848568854164275200 4624633867356078080 bq byz (by kernel_rfl) (by kernel_rfl) (by kernel_rfl)
      obtain ⟨hf, hv⟩ := whole_exact (s := s) (M := M) (sgn_abs n1 n2 (by decide) (by decide))
      obtain ⟨sm, hs, t, ht, hg⟩ := ev_gap (N := sgn s M) hf hv (by omega) (by omega) h1 hyz
      exact ⟨_, q, _, sm, t, hz, hq, hn, hs, ht, hg⟩
    · have hz : fq 4645040803167600640 (floatOfInt .f64 (60 - (if true = true then 1 else 0))) = some 4618555916164054762 := by kernel_rfl
      obtain ⟨q, hq, bq⟩ := div_bt 13848005904210853888 4624633867356078080 bLa (Bt.const (k := 4618555916164054762) (by kernel_rfl)) (by kernel_rfl)
      obtain ⟨s, M, hn, n1, n2, bn⟩ := near_bt (-16) 15 13848568854164275200 4624633867356078080 13848287379187564544 4624915342332788736 13848568854164275200 4624633867356078080 bq byz (by kernel_rfl) (by kernel_rfl) (by kernel_rfl)
      obtain ⟨hf, hv⟩ := whole_exact (s := s) (M := M) (sgn_abs n1 n2 (by decide) (by decide))
      obtain ⟨sm, hs, t, ht, hg⟩ := od_gap (N := sgn s M) hf hv (by omega) (by omega) h1 hyz
      exact ⟨_, q, _, sm, t, hz, hq, hn, hs, ht, hg⟩
  obtain ⟨z, q, n, s, la, hz, hq, hn, hs, hla, hg⟩ := first
  have fla := gap_nl hg
  have open_ : ∀ p, ((if fineB la then
    if fgtB (absW la) 4636033603912859648 then some (0, 0, false) else
    (nlF la).bind fun nl => if nlOk nl then (fq 4645040803167600640 (floatOfInt .f64 (max (nl - (if odd then 1 else 0)) 1))).bind fun lz => (fq rLon lz).bind fun q2 => (nearestF q2 xz).bind fun m => (fa m xz).bind fun s2 => (fm lz s2).bind fun lo => localB la lo else none
  else none) = some p) → localF odd lat lon rLat rLon = some p := fun p hp => bind_to hyz (bind_to hxz (bind_to hz (bind_to hq (bind_to hn (bind_to hs (bind_to hla hp))))))
  rw [if_pos (fineB_of fla.1)] at open_
  by_cases c1 : fgtB (absW la) 4636033603912859648 = true
  · rw [if_pos c1] at open_
    exact ⟨0, 0, false, open_ _ rfl, fun h => (by cases h), fun _ => ⟨rfl, rfl⟩⟩
  rw [if_neg c1] at open_
  obtain ⟨nl, hnl, l1, l2⟩ := nl_bt fla.1 fla.2
  have bzn : Bt 4607182418800017408 (floatOfInt .f64 (max (nl - (if odd then 1 else 0)) 1)) 4634626229029306368 := int_bt (lo := 1) (hi := 70) (by omega) (by omega) (by split <;> omega) (by omega) (by kernel_rfl)
  obtain ⟨lz, hlz, blz⟩ := div_bt 4617315517961601024 4645040803167600640 (Bt.const (k := 4645040803167600640) (by kernel_rfl)) bzn (by kernel_rfl)
  obtain ⟨q2, hq2, bq2⟩ := div_bt 13854198353698488320 4662439475165528064 bLo blz (by kernel_rfl)
  obtain ⟨s3, M3, hm, _, _, bm⟩ := near_bt (-41) 5200 13854339091186843648 4662439475165528064 13854268722442665984 4662440024921341952 13854339091186843648 4662439475165528064 bq2 bxz (by kernel_rfl) (by kernel_rfl) (by kernel_rfl)
  obtain ⟨s2, hs2, bs2⟩ := add_bt 13854339091186843648 4662440574677155840 bm bxz (by kernel_rfl)
  obtain ⟨lo, hlo, blo⟩ := mul_bt 13892843988391559168 4700911249582456832 blz bs2 (by kernel_rfl)
  have f180 : Fine 4640537203540230144 := fine_of (by kernel_rfl)
  have fm180 : Fine 13863909240395005952 := fine_of (by kernel_rfl)
  have hB : ∃ r, localB la lo = some (la, r, true) ∧ Bt 13935002356576944128 r 4711630319722168320 := by
    unfold localB
    by_cases c : fgeB lo 4640537203540230144 = true
    · rw [if_pos c]
      obtain ⟨r, hr, br⟩ := sub_bt 13893393744205447168 4701340746312056832 blo (Bt.const (k := 4645040803167600640) (by kernel_rfl)) (by kernel_rfl)
      exact ⟨r, bind_to hr rfl, br.weak (by kernel_rfl)⟩
    · rw [if_neg c]
      by_cases c' : fltB lo 13863909240395005952 = true
      · rw [if_pos c']
        obtain ⟨r, hr, br⟩ := add_bt 13893393744205447168 4701340746312056832 blo (Bt.const (k := 4645040803167600640) (by kernel_rfl)) (by kernel_rfl)
        exact ⟨r, bind_to hr rfl, br.weak (by kernel_rfl)⟩
      · rw [if_neg c']
        exact ⟨lo, rfl, blo.weak (by kernel_rfl)⟩
  obtain ⟨r, hr, br⟩ := hB
  have hok : (if nlOk nl then (fq 4645040803167600640 (floatOfInt .f64 (max (nl - (if odd then 1 else 0)) 1))).bind fun lz => (fq rLon lz).bind fun q2 => (nearestF q2 xz).bind fun m => (fa m xz).bind fun s2 => (fm lz s2).bind fun lo => localB la lo else none) = some (la, r, true) := by
    rw [if_pos (nlOk_of l1 l2)]
    exact bind_to hlz (bind_to hq2 (bind_to hm (bind_to hs2 (bind_to hlo hr))))
  exact ⟨la, r, true, open_ _ (bind_to hnl hok), fun _ => ⟨pole_bt fla.1 c1, br⟩, fun h => (by cases h)⟩

theorem fq_some {x y : Nat} (hx : Fine x) (hy : Fine y) (hp : 0 < val y) : ∃ r, fq x y = some r := by
  show ∃ r, double.div x y = some r
  unfold Format.div
  rw [read_fine hx, read_fine hy]
  have hv := val_read (w := y)
  rw [hv] at hp
  generalize keepK (y % 2 ^ 63) = n at *
  have hn : n ≠ 0 := by
    rintro rfl
    cases hh : (y / 2 ^ 63 % 2 == 1) <;> rw [hh] at hp <;> simp [sgn] at hp
  simp only [Datum.quotient, if_neg hn]
  exact ⟨_, rfl⟩

theorem roundF_some {x : Nat} (b : Bt 13935002356576944128 x 4711630319722168320) : ∃ r, roundF x = some r := by
  obtain ⟨a, ha, ba⟩ := mul_bt 14009883241494872064 4786511204640096256 b (Bt.const (k := 4681608360884174848) (by kernel_rfl)) (by kernel_rfl)
  obtain ⟨r, hr⟩ := fq_some (round_fine ba.fine) (fine_of (w := 4681608360884174848) (by kernel_rfl)) (of_decide_eq_true (by kernel_rfl))
  refine ⟨r, bind_to ha ?_⟩
  rw [if_pos (fineB_of ba.fine)]; exact hr
theorem roundF_zero : roundF 0 = some 0 := by kernel_rfl

end Go.Proofs.YbulkcyuwDoor
