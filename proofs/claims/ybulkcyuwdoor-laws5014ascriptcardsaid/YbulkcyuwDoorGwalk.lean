/-
  GlobalAirborne (6), LocalAirborne (7).
-/
import Derived.Test.YbulkcyuwDoorGlob
namespace Go.Proofs.YbulkcyuwDoor
open Go.RowKit

/-- A CPR position, as a value; a block that holds one. -/
def cprV (o : Bool) (la lo : Nat) : Value := .agg #[.bool o, .int .u32 la, .int .u32 lo]
def Cpr (b : Nat) (o : Bool) (la lo : Nat) (w : World) : Prop := w.heap[b]? = some (.cells #[.bool o, .int .u32 la, .int .u32 lo] 29)
theorem Cpr.c0 {b : Nat} {o : Bool} {la lo : Nat} {w : World} (h : Cpr b o la lo w) : w.cell? ⟨b, 0, none⟩ = some (.bool o) := by
  unfold Cpr at h; simp [World.cell?, h]
theorem Cpr.c1 {b : Nat} {o : Bool} {la lo : Nat} {w : World} (h : Cpr b o la lo w) : w.cell? ⟨b, 1, none⟩ = some (.int .u32 la) := by
  unfold Cpr at h; simp [World.cell?, h]
theorem Cpr.c2 {b : Nat} {o : Bool} {la lo : Nat} {w : World} (h : Cpr b o la lo w) : w.cell? ⟨b, 2, none⟩ = some (.int .u32 lo) := by
  unfold Cpr at h; simp [World.cell?, h]

theorem Cpr.frozen {b : Nat} {o : Bool} {la lo : Nat} {w : World} (h : Cpr b o la lo w) (i : Nat) : w.frozen? ⟨b, i, none⟩ = false := by
  unfold Cpr at h; simp [World.frozen?, h]
theorem cells_set {w : World} {b i : Nat} {c : Array Value} {t : TypeId} {fr : Nat × Nat} {v : Value} (h : w.heap[b]? = some (.cells c t fr)) : (w.setCell ⟨b, i, none⟩ v).heap[b]? = some (.cells (c.setIfInBounds i v) t fr) := by
  simp [World.setCell, Array.getElem?_modify, h]
theorem Cpr.set {b : Nat} {o : Bool} {la lo : Nat} {w : World} (h : Cpr b o la lo w) (o' : Bool) (la' lo' : Nat) :
    Cpr b o' la' lo' (((w.setCell ⟨b, 0, none⟩ (.bool o')).setCell ⟨b, 1, none⟩ (.int .u32 la')).setCell ⟨b, 2, none⟩ (.int .u32 lo')) :=
  cells_set (cells_set (cells_set h))
theorem Cpr.setOther {b : Nat} {o : Bool} {la lo : Nat} {w : World} (h : Cpr b o la lo w) {a : Addr} (hb : b ≠ a.block) (v : Value) : Cpr b o la lo (w.setCell a v) := (Below.heap_setCell _ _ _ _ hb).trans h
theorem Cpr.setThree {b : Nat} {o : Bool} {la lo : Nat} {w : World} (h : Cpr b o la lo w) {c : Nat} (hb : b ≠ c) (v0 v1 v2 : Value) : Cpr b o la lo (((w.setCell ⟨c, 0, none⟩ v0).setCell ⟨c, 1, none⟩ v1).setCell ⟨c, 2, none⟩ v2) :=
  ((h.setOther (a := ⟨c, 0, none⟩) hb v0).setOther (a := ⟨c, 1, none⟩) hb v1).setOther (a := ⟨c, 2, none⟩) hb v2
theorem Grew.three {x y : World} (h : Grew (fun _ => False) x y) {c : Nat} (hc : x.heap.size ≤ c) (v0 v1 v2 : Value) : Grew (fun _ => False) x (((y.setCell ⟨c, 0, none⟩ v0).setCell ⟨c, 1, none⟩ v1).setCell ⟨c, 2, none⟩ v2) :=
  ((h.setCell (a := ⟨c, 0, none⟩) (fun e => absurd e (Nat.not_lt.2 hc)) v0).setCell (a := ⟨c, 1, none⟩) (fun e => absurd e (Nat.not_lt.2 hc)) v1).setCell (a := ⟨c, 2, none⟩) (fun e => absurd e (Nat.not_lt.2 hc)) v2
theorem alloc_last (w : World) (o : Obj) : (w.alloc o).heap[w.heap.size]? = some o := by
  show (w.heap.push o)[w.heap.size]? = some o
  simp
theorem alloc_old (w : World) (o : Obj) {k : Nat} (h : k < w.heap.size) : (w.alloc o).heap[k]? = w.heap[k]? := (World.grownBy_alloc w o none).block k h (by simp)
theorem heap_lt {w : World} {k : Nat} {o : Obj} (h : w.heap[k]? = some o) : k < w.heap.size := by
  rcases Nat.lt_or_ge k w.heap.size with e | e
  · exact e
  · rw [Array.getElem?_eq_none e] at h; cases h
theorem Cpr.new {b : Nat} {o : Bool} {la lo : Nat} {w : World} (hb : b = w.heap.size) : Cpr b o la lo (w.alloc (.cells #[.bool o, .int .u32 la, .int .u32 lo] 29)) := by
  subst hb; exact alloc_last w _
theorem Cpr.alloc {b : Nat} {o : Bool} {la lo : Nat} {w : World} (h : Cpr b o la lo w) (x : Obj) : Cpr b o la lo (w.alloc x) := (alloc_old w x (heap_lt h)).trans h
theorem Cpr.drew {b : Nat} {o : Bool} {la lo : Nat} {w : World} (h : Cpr b o la lo w) : Cpr b o la lo w.drew := h
theorem Cpr.grew {S : Nat → Prop} {b : Nat} {o : Bool} {la lo : Nat} {w w' : World} (h : Cpr b o la lo w) (g : Grew S w w') (hb : ¬ S b) : Cpr b o la lo w' := (g.block b (heap_lt h) hb).trans h

/-- What the walk holds where the two positions have been told apart. -/
def Told (odd : Bool) (nLat nLon eLat eLon oLat oLon : Nat) (w : World) (s7 s8 : Value) (wx : World) : Prop :=
  ∃ b7 b8, s7 = .pointer (some ⟨b7, 0, none⟩) ∧ s8 = .pointer (some ⟨b8, 0, none⟩) ∧ (∃ o, Cpr b7 o eLat eLon wx) ∧ (∃ o, Cpr b8 o oLat oLon wx) ∧ Cpr w.heap.size odd nLat nLon wx ∧ Grew (fun _ => False) w wx

theorem Trig.drewN {w : World} (h : Trig w) (n : Nat) : Trig (w.drewN n) := h

set_option maxHeartbeats 2000000 in
set_option maxRecDepth 100000 in
theorem global_true (nLat nLon oLat oLon : Nat) (la lo : Nat) (ok : Bool) (h : globalG true oLat oLon nLat nLon = some (la, lo, ok)) (w : World) (hT : Tabs w) :
    Calls Ybad.prog 6 #[cprV true nLat nLon, cprV false oLat oLon] w fun e w' => e = .returned (.tuple #[.float .f64 la, .float .f64 lo, .bool ok]) ∧ Grew (fun _ => False) w w' := by
  have HT0 := hide hT
  clear hT
  unfold cprV
  go_enter Ybad.func6, Ybad.ntmps6
  go_upto_region 3 with fail
  go_cut [7, 8] from 26 (fun s7 s8 wx => Told true nLat nLon oLat oLon nLat nLon w s7 s8 wx)
  case first =>
    go_region
    · go_wp2_with fail
      go_meet
      case rel =>
        exact ⟨_, _, rfl, rfl, ⟨false, ((Cpr.new (by simp [World.size_alloc])).alloc _).drew⟩, ⟨true, (Cpr.new (by simp [World.size_alloc])).drew⟩, ((((Cpr.new rfl).alloc _).alloc _).alloc _).drew, Grew.drew (Grew.alloc (Grew.alloc (Grew.alloc (Grew.alloc (Grew.refl _ _) _) _) _) _)⟩
    · go_wp2_with fail
      go_meet
      case rel =>
        exact ⟨_, _, rfl, rfl, ⟨false, (Cpr.new (by simp [World.size_alloc])).drew⟩, ⟨true, ((Cpr.new (by simp [World.size_alloc])).alloc _).drew⟩, ((((Cpr.new rfl).alloc _).alloc _).alloc _).drew, Grew.drew (Grew.alloc (Grew.alloc (Grew.alloc (Grew.alloc (Grew.refl _ _) _) _) _) _)⟩
  case rest =>
    obtain ⟨b7, b8, rfl, rfl, ⟨o7, h7⟩, ⟨o8, h8⟩, hb, hG⟩ := hcut
    have a1 := h7.c1
    have a2 := h7.c2
    have a3 := h8.c1
    have a4 := h8.c2
    have a5 := hb.c0
    have HT := hide (hG.tabs (fun _ h => h.elim) (unhide HT0)).1
    have HG := hide hG
    clear hG hb h7 h8 HT0
    unfold globalG at h
    simp only [Option.bind_eq_some_iff] at h
    obtain ⟨yE, hyE, yO, hyO, j, hj, latE, hlE, latO, hlO, h⟩ := h
    unfold frac at hyE hyO
    replace hyE := run_op hyE
    replace hyO := run_op hyO
    unfold jF at hj
    simp only [Option.bind_eq_some_iff] at hj
    obtain ⟨ja, hja, jb, hjb, jc, hjc, jd, hjd, hj⟩ := hj
    by_cases hjf : fineB jd = true
    case neg => rw [if_neg hjf] at hj; cases hj
    rw [if_pos hjf] at hj
    have ej : j = floorW jd := (Option.some.inj hj).symm
    subst ej
    clear hj
    replace hja := run_op hja
    replace hjb := run_op hjb
    replace hjc := run_op hjc
    replace hjd := run_op hjd
    unfold latF at hlE hlO
    simp only [Option.bind_eq_some_iff] at hlE hlO
    obtain ⟨mE, hmE, sE, hsE, tE, htE, hlE⟩ := hlE
    obtain ⟨mO, hmO, sO, hsO, tO, htO, hlO⟩ := hlO
    replace hsE := run_op hsE
    replace htE := run_op htE
    replace hsO := run_op hsO
    replace htO := run_op htO
    by_cases hff : (fineB latE && fineB latO) = true
    case neg => rw [if_neg hff] at h; cases h
    rw [if_pos hff] at h
    simp only [Bool.and_eq_true] at hff
    have fE := fine_of hff.1
    have fO := fine_of hff.2
    have hfloor := floor_any jd (fine_of hjf)
    generalize floorW jd = j at *
    by_cases c1 : fgtB (absW latE) 4636033603912859648 = true
    case pos =>
      rw [if_pos c1] at h
      cases h
      have k1 : (FloatKind.f64.format.order (absW latE) 4636033603912859648 == some .gt) = true := c1
      clear c1
      go_wp2_with fail
      go_quiet (fail)
      go_wp2_with fail
      refine (hfloor _).mono ?_
      rintro e w1 ⟨rfl, rfl⟩
      go_wp2_with fail
      refine (floorMod_any j mE 60 hmE _).mono ?_
      rintro e w1 ⟨rfl, rfl⟩
      go_wp2_with fail
      refine (wrapAt_any tE _ latE hlE _).mono ?_
      rintro e w1 ⟨rfl, rfl⟩
      go_wp2_with fail
      refine (floorMod_any j mO 59 hmO _).mono ?_
      rintro e w1 ⟨rfl, rfl⟩
      go_wp2_with fail
      refine (wrapAt_any tO _ latO hlO _).mono ?_
      rintro e w1 ⟨rfl, rfl⟩
      go_wp2_with fail
      refine (abs_any latE fE.1 _).mono ?_
      rintro e w1 ⟨rfl, rfl⟩
      go_wp2_with fail
      go_ret3
      exact ⟨rfl, (unhide HG).drewN _⟩
    rw [if_neg c1] at h
    have k1 : (FloatKind.f64.format.order (absW latE) 4636033603912859648 == some .gt) = false := Bool.eq_false_iff.2 c1
    clear c1
    by_cases c2 : fgtB (absW latO) 4636033603912859648 = true
    case pos =>
      rw [if_pos c2] at h
      cases h
      have k2 : (FloatKind.f64.format.order (absW latO) 4636033603912859648 == some .gt) = true := c2
      clear c2
      go_wp2_with fail
      go_quiet (fail)
      go_wp2_with fail
      refine (hfloor _).mono ?_
      rintro e w1 ⟨rfl, rfl⟩
      go_wp2_with fail
      refine (floorMod_any j mE 60 hmE _).mono ?_
      rintro e w1 ⟨rfl, rfl⟩
      go_wp2_with fail
      refine (wrapAt_any tE _ latE hlE _).mono ?_
      rintro e w1 ⟨rfl, rfl⟩
      go_wp2_with fail
      refine (floorMod_any j mO 59 hmO _).mono ?_
      rintro e w1 ⟨rfl, rfl⟩
      go_wp2_with fail
      refine (wrapAt_any tO _ latO hlO _).mono ?_
      rintro e w1 ⟨rfl, rfl⟩
      go_wp2_with fail
      refine (abs_any latE fE.1 _).mono ?_
      rintro e w1 ⟨rfl, rfl⟩
      go_wp2_with fail
      refine (abs_any latO fO.1 _).mono ?_
      rintro e w1 ⟨rfl, rfl⟩
      go_wp2_with fail
      go_ret3
      exact ⟨rfl, (unhide HG).drewN _⟩
    rw [if_neg c2] at h
    have k2 : (FloatKind.f64.format.order (absW latO) 4636033603912859648 == some .gt) = false := Bool.eq_false_iff.2 c2
    clear c2
    simp only [Option.bind_eq_some_iff] at h
    obtain ⟨nE, hnE, nO, hnO, h⟩ := h
    by_cases c3 : nE = nO
    case neg =>
      rw [if_neg c3] at h
      cases h
      go_wp2_with fail
      go_quiet (fail)
      go_wp2_with fail
      refine (hfloor _).mono ?_
      rintro e w1 ⟨rfl, rfl⟩
      go_wp2_with fail
      refine (floorMod_any j mE 60 hmE _).mono ?_
      rintro e w1 ⟨rfl, rfl⟩
      go_wp2_with fail
      refine (wrapAt_any tE _ latE hlE _).mono ?_
      rintro e w1 ⟨rfl, rfl⟩
      go_wp2_with fail
      refine (floorMod_any j mO 59 hmO _).mono ?_
      rintro e w1 ⟨rfl, rfl⟩
      go_wp2_with fail
      refine (wrapAt_any tO _ latO hlO _).mono ?_
      rintro e w1 ⟨rfl, rfl⟩
      go_wp2_with fail
      refine (abs_any latE fE.1 _).mono ?_
      rintro e w1 ⟨rfl, rfl⟩
      go_wp2_with fail
      refine (abs_any latO fO.1 _).mono ?_
      rintro e w1 ⟨rfl, rfl⟩
      go_wp2_with fail
      refine (nl_walk latE _ fE hnE _ ((unhide HT).drewN _)).mono ?_
      rintro e w1 ⟨rfl, rfl⟩
      go_wp2_with fail
      refine (nl_walk latO _ fO hnO _ ((unhide HT).drewN _)).mono ?_
      rintro e w1 ⟨rfl, rfl⟩
      go_wp2_with fail
      go_ret3
      exact ⟨rfl, (unhide HG).drewN _⟩
    rw [if_pos c3] at h
    subst c3
    simp only [Option.bind_eq_some_iff] at h
    obtain ⟨xE, hxE, xO, hxO, nl, hnl, hlon⟩ := h
    unfold frac at hxE hxO
    replace hxE := run_op hxE
    replace hxO := run_op hxO
    simp only [if_true] at hnl hlon
    by_cases hnk : nlOk nl = true
    case neg => rw [if_neg hnk] at hlon; cases hlon
    rw [if_pos hnk] at hlon
    unfold nlOk at hnk
    simp only [Bool.and_eq_true, decide_eq_true_eq] at hnk
    obtain ⟨hn0, hn1⟩ := hnk
    simp only [Option.bind_eq_some_iff] at hlon
    obtain ⟨lon, hlon, h⟩ := hlon
    simp only [Option.some.injEq, Prod.mk.injEq] at h
    obtain ⟨e1, e2, e3⟩ := h
    subst e1
    subst e2
    subst e3
    have d1 : wrap64 (nl - 1) = nl - 1 := by unfold wrap64; omega
    have d0 : wrap64 (nl - 0) = nl := by unfold wrap64; omega
    have d2 : wrap64 nl = nl := by unfold wrap64; omega
    clear hn0 hn1
    unfold lonF at hlon
    simp only [Option.bind_eq_some_iff] at hlon
    obtain ⟨la1, hla1, lb1, hlb1, lc1, hlc1, ld1, hld1, hlon⟩ := hlon
    by_cases hlf : fineB ld1 = true
    case neg => rw [if_neg hlf] at hlon; cases hlon
    rw [if_pos hlf] at hlon
    simp only [Option.bind_eq_some_iff] at hlon
    obtain ⟨zz, hzz, mm, hmm, ss, hss, tt, htt, hlon⟩ := hlon
    replace hla1 := run_op hla1
    replace hlb1 := run_op hlb1
    replace hlc1 := run_op hlc1
    replace hld1 := run_op hld1
    replace hss := run_op hss
    replace htt := run_op htt
    have hfl2 := floor_any ld1 (fine_of hlf)
    generalize floorW ld1 = jj at *
    by_cases hz1 : 1 ≤ nl - 1
    case pos =>
      have em : max (nl - 1) 1 = nl - 1 := by omega
      rw [em] at hmm hzz
      clear em
      replace hzz := run_op hzz
      go_wp2_with fail
      go_quiet (fail)
      go_wp2_with fail
      refine (hfloor _).mono ?_
      rintro e w1 ⟨rfl, rfl⟩
      go_wp2_with fail
      refine (floorMod_any j mE 60 hmE _).mono ?_
      rintro e w1 ⟨rfl, rfl⟩
      go_wp2_with fail
      refine (wrapAt_any tE _ latE hlE _).mono ?_
      rintro e w1 ⟨rfl, rfl⟩
      go_wp2_with fail
      refine (floorMod_any j mO 59 hmO _).mono ?_
      rintro e w1 ⟨rfl, rfl⟩
      go_wp2_with fail
      refine (wrapAt_any tO _ latO hlO _).mono ?_
      rintro e w1 ⟨rfl, rfl⟩
      go_wp2_with fail
      refine (abs_any latE fE.1 _).mono ?_
      rintro e w1 ⟨rfl, rfl⟩
      go_wp2_with fail
      refine (abs_any latO fO.1 _).mono ?_
      rintro e w1 ⟨rfl, rfl⟩
      go_wp2_with fail
      refine (nl_walk latE _ fE hnE _ ((unhide HT).drewN _)).mono ?_
      rintro e w1 ⟨rfl, rfl⟩
      go_wp2_with fail
      refine (nl_walk latO _ fO hnO _ ((unhide HT).drewN _)).mono ?_
      rintro e w1 ⟨rfl, rfl⟩
      go_wp2_with fail
      go_quiet (fail)
      go_wp2_with fail
      refine (nl_walk latO _ fO hnl _ ((unhide HT).drewN _)).mono ?_
      rintro e w1 ⟨rfl, rfl⟩
      go_wp2_with fail
      refine (hfl2 _).mono ?_
      rintro e w1 ⟨rfl, rfl⟩
      go_wp2_with fail
      refine (floorMod_any jj mm _ hmm _).mono ?_
      rintro e w1 ⟨rfl, rfl⟩
      go_wp2_with fail
      refine (wrapAt_any tt _ lon hlon _).mono ?_
      rintro e w1 ⟨rfl, rfl⟩
      go_wp2_with fail
      go_ret3
      exact ⟨rfl, (unhide HG).drewN _⟩
    case neg =>
      have em : max (nl - 1) 1 = 1 := by omega
      rw [em] at hmm hzz
      clear em
      replace hzz := run_op hzz
      go_wp2_with fail
      go_quiet (fail)
      go_wp2_with fail
      refine (hfloor _).mono ?_
      rintro e w1 ⟨rfl, rfl⟩
      go_wp2_with fail
      refine (floorMod_any j mE 60 hmE _).mono ?_
      rintro e w1 ⟨rfl, rfl⟩
      go_wp2_with fail
      refine (wrapAt_any tE _ latE hlE _).mono ?_
      rintro e w1 ⟨rfl, rfl⟩
      go_wp2_with fail
      refine (floorMod_any j mO 59 hmO _).mono ?_
      rintro e w1 ⟨rfl, rfl⟩
      go_wp2_with fail
      refine (wrapAt_any tO _ latO hlO _).mono ?_
      rintro e w1 ⟨rfl, rfl⟩
      go_wp2_with fail
      refine (abs_any latE fE.1 _).mono ?_
      rintro e w1 ⟨rfl, rfl⟩
      go_wp2_with fail
      refine (abs_any latO fO.1 _).mono ?_
      rintro e w1 ⟨rfl, rfl⟩
      go_wp2_with fail
      refine (nl_walk latE _ fE hnE _ ((unhide HT).drewN _)).mono ?_
      rintro e w1 ⟨rfl, rfl⟩
      go_wp2_with fail
      refine (nl_walk latO _ fO hnO _ ((unhide HT).drewN _)).mono ?_
      rintro e w1 ⟨rfl, rfl⟩
      go_wp2_with fail
      go_quiet (fail)
      go_wp2_with fail
      refine (nl_walk latO _ fO hnl _ ((unhide HT).drewN _)).mono ?_
      rintro e w1 ⟨rfl, rfl⟩
      go_wp2_with fail
      refine (hfl2 _).mono ?_
      rintro e w1 ⟨rfl, rfl⟩
      go_wp2_with fail
      refine (floorMod_any jj mm _ hmm _).mono ?_
      rintro e w1 ⟨rfl, rfl⟩
      go_wp2_with fail
      refine (wrapAt_any tt _ lon hlon _).mono ?_
      rintro e w1 ⟨rfl, rfl⟩
      go_wp2_with fail
      go_ret3
      exact ⟨rfl, (unhide HG).drewN _⟩

/-- The same, ahead of the exchange. -/
def Mid (nLat nLon oLat oLon : Nat) (w : World) (s7 s8 : Value) (wx : World) : Prop :=
  ∃ b7 b8, s7 = .pointer (some ⟨b7, 0, none⟩) ∧ s8 = .pointer (some ⟨b8, 0, none⟩) ∧ b7 ≠ b8 ∧ w.heap.size + 2 ≤ b7 ∧ w.heap.size + 2 ≤ b8 ∧ Cpr b7 true oLat oLon wx ∧ Cpr b8 false nLat nLon wx ∧ Cpr w.heap.size false nLat nLon wx ∧ Cpr (w.heap.size + 1) true oLat oLon wx ∧ Grew (fun _ => False) w wx

set_option maxHeartbeats 2000000 in
set_option maxRecDepth 100000 in
theorem global_false (nLat nLon oLat oLon : Nat) (la lo : Nat) (ok : Bool) (h : globalG false nLat nLon oLat oLon = some (la, lo, ok)) (w : World) (hT : Tabs w) :
    Calls Ybad.prog 6 #[cprV false nLat nLon, cprV true oLat oLon] w fun e w' => e = .returned (.tuple #[.float .f64 la, .float .f64 lo, .bool ok]) ∧ Grew (fun _ => False) w w' := by
  have HT0 := hide hT
  clear hT
  unfold cprV
  go_enter Ybad.func6, Ybad.ntmps6
  go_upto_region 3 with fail
  go_cut [7, 8] from 26 (fun s7 s8 wx => Mid nLat nLon oLat oLon w s7 s8 wx)
  case first =>
    go_region
    · go_wp2_with fail
      go_meet
      case rel =>
        exact ⟨_, _, rfl, rfl, by omega, by omega, by omega, ((Cpr.new (by simp [World.size_alloc])).alloc _).drew, (Cpr.new (by simp [World.size_alloc])).drew, ((((Cpr.new rfl).alloc _).alloc _).alloc _).drew, (((Cpr.new (by simp [World.size_alloc])).alloc _).alloc _).drew, Grew.drew (Grew.alloc (Grew.alloc (Grew.alloc (Grew.alloc (Grew.refl _ _) _) _) _) _)⟩
    · go_wp2_with fail
      go_meet
      case rel =>
        exact ⟨_, _, rfl, rfl, by omega, by omega, by omega, (Cpr.new (by simp [World.size_alloc])).drew, ((Cpr.new (by simp [World.size_alloc])).alloc _).drew, ((((Cpr.new rfl).alloc _).alloc _).alloc _).drew, (((Cpr.new (by simp [World.size_alloc])).alloc _).alloc _).drew, Grew.drew (Grew.alloc (Grew.alloc (Grew.alloc (Grew.alloc (Grew.refl _ _) _) _) _) _)⟩
  case rest =>
    obtain ⟨b7, b8, rfl, rfl, hne, hb7, hb8, m7, m8, m0, m1, hG⟩ := hcut
    have p0 := m0.c0
    have p1 := m0.c1
    have p2 := m0.c2
    have q0 := m1.c0
    have q1 := m1.c1
    have q2 := m1.c2
    have f7 := m7.frozen
    have f8 := m8.frozen
    have r70 := m7.c0
    have r71 := m7.c1
    have r72 := m7.c2
    have r80 := m8.c0
    have r81 := m8.c1
    have r82 := m8.c2
    have n1 : w.heap.size ≠ b7 := by omega
    have n2 : w.heap.size ≠ b8 := by omega
    have n3 : w.heap.size + 1 ≠ b7 := by omega
    have n4 : w.heap.size + 1 ≠ b8 := by omega
    have HM := hide (And.intro m7 (And.intro m8 (And.intro m0 hG)))
    clear m7 m8 m0 m1 hG
    go_upto_region 5 with fail
    go_cut [] from 31 (fun wx => Cpr b7 false nLat nLon wx ∧ Cpr b8 true oLat oLon wx ∧ Cpr w.heap.size false nLat nLon wx ∧ Grew (fun _ => False) w wx)
    case first =>
      go_region
      all_goals go_wp2_with fail
      all_goals go_meet
      all_goals (obtain ⟨m7, m8, m0, hG⟩ := unhide HM)
      all_goals first
        | exact ⟨((m7.set false nLat nLon).setThree hne _ _ _).drew, ((m8.setThree (Ne.symm hne) _ _ _).set true oLat oLon).drew, ((m0.setThree n1 _ _ _).setThree n2 _ _ _).drew, ((hG.three (by omega) _ _ _).three (by omega) _ _ _).drew⟩
        | exact ⟨((m7.setThree hne _ _ _).set false nLat nLon).drew, ((m8.set true oLat oLon).setThree (Ne.symm hne) _ _ _).drew, ((m0.setThree n2 _ _ _).setThree n1 _ _ _).drew, ((hG.three (by omega) _ _ _).three (by omega) _ _ _).drew⟩
    case rest =>
      obtain ⟨h7, h8, hb, hG⟩ := hcut
      have a1 := h7.c1
      have a2 := h7.c2
      have a3 := h8.c1
      have a4 := h8.c2
      have a5 := hb.c0
      have HT := hide (hG.tabs (fun _ h => h.elim) (unhide HT0)).1
      have HG := hide hG
      clear hG hb h7 h8 HT0
      unfold globalG at h
      simp only [Option.bind_eq_some_iff] at h
      obtain ⟨yE, hyE, yO, hyO, j, hj, latE, hlE, latO, hlO, h⟩ := h
      unfold frac at hyE hyO
      replace hyE := run_op hyE
      replace hyO := run_op hyO
      unfold jF at hj
      simp only [Option.bind_eq_some_iff] at hj
      obtain ⟨ja, hja, jb, hjb, jc, hjc, jd, hjd, hj⟩ := hj
      by_cases hjf : fineB jd = true
      case neg => rw [if_neg hjf] at hj; cases hj
      rw [if_pos hjf] at hj
      have ej : j = floorW jd := (Option.some.inj hj).symm
      subst ej
      clear hj
      replace hja := run_op hja
      replace hjb := run_op hjb
      replace hjc := run_op hjc
      replace hjd := run_op hjd
      unfold latF at hlE hlO
      simp only [Option.bind_eq_some_iff] at hlE hlO
      obtain ⟨mE, hmE, sE, hsE, tE, htE, hlE⟩ := hlE
      obtain ⟨mO, hmO, sO, hsO, tO, htO, hlO⟩ := hlO
      replace hsE := run_op hsE
      replace htE := run_op htE
      replace hsO := run_op hsO
      replace htO := run_op htO
      by_cases hff : (fineB latE && fineB latO) = true
      case neg => rw [if_neg hff] at h; cases h
      rw [if_pos hff] at h
      simp only [Bool.and_eq_true] at hff
      have fE := fine_of hff.1
      have fO := fine_of hff.2
      have hfloor := floor_any jd (fine_of hjf)
      generalize floorW jd = j at *
      by_cases c1 : fgtB (absW latE) 4636033603912859648 = true
      case pos =>
        rw [if_pos c1] at h
        cases h
        have k1 : (FloatKind.f64.format.order (absW latE) 4636033603912859648 == some .gt) = true := c1
        clear c1
        go_wp2_with fail
        go_quiet (fail)
        go_wp2_with fail
        refine (hfloor _).mono ?_
        rintro e w1 ⟨rfl, rfl⟩
        go_wp2_with fail
        refine (floorMod_any j mE 60 hmE _).mono ?_
        rintro e w1 ⟨rfl, rfl⟩
        go_wp2_with fail
        refine (wrapAt_any tE _ latE hlE _).mono ?_
        rintro e w1 ⟨rfl, rfl⟩
        go_wp2_with fail
        refine (floorMod_any j mO 59 hmO _).mono ?_
        rintro e w1 ⟨rfl, rfl⟩
        go_wp2_with fail
        refine (wrapAt_any tO _ latO hlO _).mono ?_
        rintro e w1 ⟨rfl, rfl⟩
        go_wp2_with fail
        refine (abs_any latE fE.1 _).mono ?_
        rintro e w1 ⟨rfl, rfl⟩
        go_wp2_with fail
        go_ret3
        exact ⟨rfl, (unhide HG).drewN _⟩
      rw [if_neg c1] at h
      have k1 : (FloatKind.f64.format.order (absW latE) 4636033603912859648 == some .gt) = false := Bool.eq_false_iff.2 c1
      clear c1
      by_cases c2 : fgtB (absW latO) 4636033603912859648 = true
      case pos =>
        rw [if_pos c2] at h
        cases h
        have k2 : (FloatKind.f64.format.order (absW latO) 4636033603912859648 == some .gt) = true := c2
        clear c2
        go_wp2_with fail
        go_quiet (fail)
        go_wp2_with fail
        refine (hfloor _).mono ?_
        rintro e w1 ⟨rfl, rfl⟩
        go_wp2_with fail
        refine (floorMod_any j mE 60 hmE _).mono ?_
        rintro e w1 ⟨rfl, rfl⟩
        go_wp2_with fail
        refine (wrapAt_any tE _ latE hlE _).mono ?_
        rintro e w1 ⟨rfl, rfl⟩
        go_wp2_with fail
        refine (floorMod_any j mO 59 hmO _).mono ?_
        rintro e w1 ⟨rfl, rfl⟩
        go_wp2_with fail
        refine (wrapAt_any tO _ latO hlO _).mono ?_
        rintro e w1 ⟨rfl, rfl⟩
        go_wp2_with fail
        refine (abs_any latE fE.1 _).mono ?_
        rintro e w1 ⟨rfl, rfl⟩
        go_wp2_with fail
        refine (abs_any latO fO.1 _).mono ?_
        rintro e w1 ⟨rfl, rfl⟩
        go_wp2_with fail
        go_ret3
        exact ⟨rfl, (unhide HG).drewN _⟩
      rw [if_neg c2] at h
      have k2 : (FloatKind.f64.format.order (absW latO) 4636033603912859648 == some .gt) = false := Bool.eq_false_iff.2 c2
      clear c2
      simp only [Option.bind_eq_some_iff] at h
      obtain ⟨nE, hnE, nO, hnO, h⟩ := h
      by_cases c3 : nE = nO
      case neg =>
        rw [if_neg c3] at h
        cases h
        go_wp2_with fail
        go_quiet (fail)
        go_wp2_with fail
        refine (hfloor _).mono ?_
        rintro e w1 ⟨rfl, rfl⟩
        go_wp2_with fail
        refine (floorMod_any j mE 60 hmE _).mono ?_
        rintro e w1 ⟨rfl, rfl⟩
        go_wp2_with fail
        refine (wrapAt_any tE _ latE hlE _).mono ?_
        rintro e w1 ⟨rfl, rfl⟩
        go_wp2_with fail
        refine (floorMod_any j mO 59 hmO _).mono ?_
        rintro e w1 ⟨rfl, rfl⟩
        go_wp2_with fail
        refine (wrapAt_any tO _ latO hlO _).mono ?_
        rintro e w1 ⟨rfl, rfl⟩
        go_wp2_with fail
        refine (abs_any latE fE.1 _).mono ?_
        rintro e w1 ⟨rfl, rfl⟩
        go_wp2_with fail
        refine (abs_any latO fO.1 _).mono ?_
        rintro e w1 ⟨rfl, rfl⟩
        go_wp2_with fail
        refine (nl_walk latE _ fE hnE _ ((unhide HT).drewN _)).mono ?_
        rintro e w1 ⟨rfl, rfl⟩
        go_wp2_with fail
        refine (nl_walk latO _ fO hnO _ ((unhide HT).drewN _)).mono ?_
        rintro e w1 ⟨rfl, rfl⟩
        go_wp2_with fail
        go_ret3
        exact ⟨rfl, (unhide HG).drewN _⟩
      rw [if_pos c3] at h
      subst c3
      simp only [Option.bind_eq_some_iff] at h
      obtain ⟨xE, hxE, xO, hxO, nl, hnl, hlon⟩ := h
      unfold frac at hxE hxO
      replace hxE := run_op hxE
      replace hxO := run_op hxO
      simp only [Bool.false_eq_true, if_false, Int.sub_zero] at hnl hlon
      by_cases hnk : nlOk nl = true
      case neg => rw [if_neg hnk] at hlon; cases hlon
      rw [if_pos hnk] at hlon
      unfold nlOk at hnk
      simp only [Bool.and_eq_true, decide_eq_true_eq] at hnk
      obtain ⟨hn0, hn1⟩ := hnk
      simp only [Option.bind_eq_some_iff] at hlon
      obtain ⟨lon, hlon, h⟩ := hlon
      simp only [Option.some.injEq, Prod.mk.injEq] at h
      obtain ⟨e1, e2, e3⟩ := h
      subst e1
      subst e2
      subst e3
      have d1 : wrap64 (nl - 1) = nl - 1 := by unfold wrap64; omega
      have d0 : wrap64 (nl - 0) = nl := by unfold wrap64; omega
      have d2 : wrap64 nl = nl := by unfold wrap64; omega
      clear hn0 hn1
      unfold lonF at hlon
      simp only [Option.bind_eq_some_iff] at hlon
      obtain ⟨la1, hla1, lb1, hlb1, lc1, hlc1, ld1, hld1, hlon⟩ := hlon
      by_cases hlf : fineB ld1 = true
      case neg => rw [if_neg hlf] at hlon; cases hlon
      rw [if_pos hlf] at hlon
      simp only [Option.bind_eq_some_iff] at hlon
      obtain ⟨zz, hzz, mm, hmm, ss, hss, tt, htt, hlon⟩ := hlon
      replace hla1 := run_op hla1
      replace hlb1 := run_op hlb1
      replace hlc1 := run_op hlc1
      replace hld1 := run_op hld1
      replace hss := run_op hss
      replace htt := run_op htt
      have hfl2 := floor_any ld1 (fine_of hlf)
      generalize floorW ld1 = jj at *
      by_cases hz1 : 1 ≤ nl
      case pos =>
        have em : max (nl) 1 = nl := by omega
        rw [em] at hmm hzz
        clear em
        replace hzz := run_op hzz
        go_wp2_with fail
        go_quiet (fail)
        go_wp2_with fail
        refine (hfloor _).mono ?_
        rintro e w1 ⟨rfl, rfl⟩
        go_wp2_with fail
        refine (floorMod_any j mE 60 hmE _).mono ?_
        rintro e w1 ⟨rfl, rfl⟩
        go_wp2_with fail
        refine (wrapAt_any tE _ latE hlE _).mono ?_
        rintro e w1 ⟨rfl, rfl⟩
        go_wp2_with fail
        refine (floorMod_any j mO 59 hmO _).mono ?_
        rintro e w1 ⟨rfl, rfl⟩
        go_wp2_with fail
        refine (wrapAt_any tO _ latO hlO _).mono ?_
        rintro e w1 ⟨rfl, rfl⟩
        go_wp2_with fail
        refine (abs_any latE fE.1 _).mono ?_
        rintro e w1 ⟨rfl, rfl⟩
        go_wp2_with fail
        refine (abs_any latO fO.1 _).mono ?_
        rintro e w1 ⟨rfl, rfl⟩
        go_wp2_with fail
        refine (nl_walk latE _ fE hnE _ ((unhide HT).drewN _)).mono ?_
        rintro e w1 ⟨rfl, rfl⟩
        go_wp2_with fail
        refine (nl_walk latO _ fO hnO _ ((unhide HT).drewN _)).mono ?_
        rintro e w1 ⟨rfl, rfl⟩
        go_wp2_with fail
        go_quiet (fail)
        go_wp2_with fail
        refine (nl_walk latE _ fE hnl _ ((unhide HT).drewN _)).mono ?_
        rintro e w1 ⟨rfl, rfl⟩
        go_wp2_with fail
        refine (hfl2 _).mono ?_
        rintro e w1 ⟨rfl, rfl⟩
        go_wp2_with fail
        refine (floorMod_any jj mm _ hmm _).mono ?_
        rintro e w1 ⟨rfl, rfl⟩
        go_wp2_with fail
        refine (wrapAt_any tt _ lon hlon _).mono ?_
        rintro e w1 ⟨rfl, rfl⟩
        go_wp2_with fail
        go_ret3
        exact ⟨rfl, (unhide HG).drewN _⟩
      case neg =>
        have em : max (nl) 1 = 1 := by omega
        rw [em] at hmm hzz
        clear em
        replace hzz := run_op hzz
        go_wp2_with fail
        go_quiet (fail)
        go_wp2_with fail
        refine (hfloor _).mono ?_
        rintro e w1 ⟨rfl, rfl⟩
        go_wp2_with fail
        refine (floorMod_any j mE 60 hmE _).mono ?_
        rintro e w1 ⟨rfl, rfl⟩
        go_wp2_with fail
        refine (wrapAt_any tE _ latE hlE _).mono ?_
        rintro e w1 ⟨rfl, rfl⟩
        go_wp2_with fail
        refine (floorMod_any j mO 59 hmO _).mono ?_
        rintro e w1 ⟨rfl, rfl⟩
        go_wp2_with fail
        refine (wrapAt_any tO _ latO hlO _).mono ?_
        rintro e w1 ⟨rfl, rfl⟩
        go_wp2_with fail
        refine (abs_any latE fE.1 _).mono ?_
        rintro e w1 ⟨rfl, rfl⟩
        go_wp2_with fail
        refine (abs_any latO fO.1 _).mono ?_
        rintro e w1 ⟨rfl, rfl⟩
        go_wp2_with fail
        refine (nl_walk latE _ fE hnE _ ((unhide HT).drewN _)).mono ?_
        rintro e w1 ⟨rfl, rfl⟩
        go_wp2_with fail
        refine (nl_walk latO _ fO hnO _ ((unhide HT).drewN _)).mono ?_
        rintro e w1 ⟨rfl, rfl⟩
        go_wp2_with fail
        go_quiet (fail)
        go_wp2_with fail
        refine (nl_walk latE _ fE hnl _ ((unhide HT).drewN _)).mono ?_
        rintro e w1 ⟨rfl, rfl⟩
        go_wp2_with fail
        refine (hfl2 _).mono ?_
        rintro e w1 ⟨rfl, rfl⟩
        go_wp2_with fail
        refine (floorMod_any jj mm _ hmm _).mono ?_
        rintro e w1 ⟨rfl, rfl⟩
        go_wp2_with fail
        refine (wrapAt_any tt _ lon hlon _).mono ?_
        rintro e w1 ⟨rfl, rfl⟩
        go_wp2_with fail
        go_ret3
        exact ⟨rfl, (unhide HG).drewN _⟩

set_option maxHeartbeats 1000000 in
set_option maxRecDepth 100000 in
theorem global_same (o : Bool) (nLat nLon oLat oLon : Nat) (w : World) :
    Calls Ybad.prog 6 #[cprV o nLat nLon, cprV o oLat oLon] w fun e w' => e = .returned (.tuple #[.float .f64 0, .float .f64 0, .bool false]) ∧ Grew (fun _ => False) w w' := by
  unfold cprV
  cases o
  · go_enter Ybad.func6, Ybad.ntmps6
    go_wp2_with fail
    go_ret3
    exact ⟨rfl, Grew.alloc (Grew.alloc (Grew.refl _ _) _) _⟩
  · go_enter Ybad.func6, Ybad.ntmps6
    go_wp2_with fail
    go_ret3
    exact ⟨rfl, Grew.alloc (Grew.alloc (Grew.refl _ _) _) _⟩

theorem global_any (nOdd oOdd : Bool) (nLat nLon oLat oLon : Nat) (la lo : Nat) (ok : Bool) (h : globalF nOdd nLat nLon oOdd oLat oLon = some (la, lo, ok)) (w : World) (hT : Tabs w) :
    Calls Ybad.prog 6 #[cprV nOdd nLat nLon, cprV oOdd oLat oLon] w fun e w' => e = .returned (.tuple #[.float .f64 la, .float .f64 lo, .bool ok]) ∧ Grew (fun _ => False) w w' := by
  unfold globalF at h
  cases nOdd <;> cases oOdd
  · cases h; exact global_same false nLat nLon oLat oLon w
  · exact global_false nLat nLon oLat oLon la lo ok h w hT
  · exact global_true nLat nLon oLat oLon la lo ok h w hT
  · cases h; exact global_same true nLat nLon oLat oLon w

end Go.Proofs.YbulkcyuwDoor
