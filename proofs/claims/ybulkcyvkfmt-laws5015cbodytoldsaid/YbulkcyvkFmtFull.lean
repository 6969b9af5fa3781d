/-
  io.ReadAtLeast (42), io.ReadFull (24) over the law's reader.
-/
import Derived.Test.YbulkcyvkFmtBio
namespace Go.Proofs.YbulkcyvkFmt
open Go.RowKit

/-- m octets read into n, zeros behind them. -/
def fil (dat : Nat → Nat) (m n : Nat) : List Value := bytes dat 0 m ++ List.replicate (n - m) (.int .u8 0)
theorem fil_len {dat : Nat → Nat} {m n : Nat} (h : m ≤ n) : (fil dat m n).length = n := by simp [fil, bytes_len]; omega
theorem bytes_append (dat : Nat → Nat) (p a b : Nat) : bytes dat p a ++ bytes dat (p + a) b = bytes dat p (a + b) := by
  unfold bytes
  rw [List.range_add, List.map_append, List.map_map]
  congr 1
  refine List.map_congr_left fun i _ => ?_
  simp [Nat.add_assoc]
theorem fil_splice {dat : Nat → Nat} {m c n : Nat} (h : m + c ≤ n) : splice (fil dat m n) m (bytes dat m c) = fil dat (m + c) n := by
  unfold splice fil
  rw [bytes_len, List.take_left' (bytes_len _ _ _), List.drop_append, bytes_len, List.drop_eq_nil_of_le (by rw [bytes_len]; omega), List.drop_replicate, List.nil_append, ← List.append_assoc]
  have := bytes_append dat 0 m c
  rw [Nat.zero_add] at this
  rw [this]
  congr 2
  omega
@[go_sem] theorem methodRead30 (v : Value) (w : World) : (Go.method 368 30 v "Read").run Ybaf.prog w = .ok (71, v) w := by kernel_rfl

@[go_sem] theorem nilAhead30 (a : Addr) (w : World) : (nilAhead 368 30 (.pointer (some a)) "Read").run Ybaf.prog w = .ok (some false) w := by kernel_rfl

/-- Where the reading stands. -/
structure Stand (B R gb S g : Nat) (da : Option Addr) (N cap k : Nat) (dat : Nat → Nat) (ae : Addr) (n m : Nat) (w0 w : World) : Prop where
  le : m ≤ n ∧ m ≤ N
  oct : Oct g (fil dat m n) w
  bst : ∃ r wp cb, Bst B R gb S da N cap k dat ae m r wp cb w
  only : Only (fun j => j = g ∨ j = S ∨ j = R ∨ j = gb) w0 w
theorem Stand.drew {B R gb S g : Nat} {da : Option Addr} {N cap k : Nat} {dat : Nat → Nat} {ae : Addr} {n m : Nat} {w0 w : World} (h : Stand B R gb S g da N cap k dat ae n m w0 w) : Stand B R gb S g da N cap k dat ae n m w0 w.drew :=
  ⟨h.le, h.oct, by obtain ⟨r, wp, cb, hb⟩ := h.bst; exact ⟨r, wp, cb, hb.drew⟩, h.only.drew⟩

/-- One round of the reading. -/
theorem Stand.read {B R gb S g : Nat} {da : Option Addr} {N cap k : Nat} {dat : Nat → Nat} {ae : Addr} {n m : Nat} {w0 w : World} (h : Stand B R gb S g da N cap k dat ae n m w0 w) (hgB : B ≤ g) (hgb : g ≠ gb) (hmn : m < n) (hn : n ≤ 255) :
    Calls Ybaf.prog 71 #[.pointer (some ⟨R, 0, none⟩), .slice (some ⟨g, m, none⟩) (n - m) (n - m)] w fun e w' => ∃ c ev, e = .returned (.tuple #[.int .i64 (c : Nat), ev]) ∧ Stand B R gb S g da N cap k dat ae n (m + c) w0 w' ∧ m + c ≤ n ∧ ((c = 0 ∧ m = N ∧ ev = .iface 81 (.pointer (some ae))) ∨ (1 ≤ c ∧ ev = .nilIface)) := by
  obtain ⟨r, wp, cb, hb⟩ := h.bst
  refine (bufRead B R gb S da N cap k dat ae m r wp cb w hb g m (n - m) (n - m) (fil dat m n) h.oct hgB hgb (by omega) ⟨Nat.le_refl _, by unfold maxLen; omega⟩ (by rw [fil_len h.le.1]; omega)).mono fun e w' hh => ?_
  rcases hh with ⟨h1, rfl, ho, hbs, hon⟩ | ⟨h1, c, c1, c2, c3, rfl, ho, hbs, hon⟩
  · exact ⟨0, _, rfl, ⟨h.le, ho, hbs, h.only.trans hon⟩, by omega, .inl ⟨rfl, h1, rfl⟩⟩
  · rw [fil_splice (by omega)] at ho
    exact ⟨c, _, rfl, ⟨⟨by omega, c3⟩, ho, hbs, h.only.trans hon⟩, by omega, .inr ⟨c1, rfl⟩⟩

/-- What ReadFull leaves. -/
def FullPost (B R gb S g : Nat) (da : Option Addr) (N cap k : Nat) (dat : Nat → Nat) (ae aE aU : Addr) (n : Nat) (w : World) (e : Ending) (w' : World) : Prop :=
  (n ≤ N ∧ e = .returned (.tuple #[.int .i64 n, .nilIface]) ∧ Stand B R gb S g da N cap k dat ae n n w w') ∨
  (N < n ∧ e = .returned (.tuple #[.int .i64 N, .iface 81 (.pointer (some (if 0 < N ∧ ae = aE then aU else ae)))]) ∧ Stand B R gb S g da N cap k dat ae n N w w')
/-- The two ways the source may end: io.EOF, or an error of its own. -/
def Ends (B : Nat) (ae aE : Addr) (w : World) : Prop :=
  ae = aE ∨ (ae ≠ aE ∧ (∃ ca, w.heap[ae.block]? = some (.cells ca 83 (0, 0))) ∧ (∃ cb tb, w.heap[aE.block]? = some (.cells cb tb (0, 0))) ∧ aE.block < B)

theorem ends_ne {w : World} {a : Nat} {ca : Array Value} (ha : w.heap[a]? = some (.cells ca 83 (0, 0))) {b : Nat} {t : TypeId} {n : Nat} {f : Nat → Value} (r : w.rowIs b t n f) (hne : t ≠ 83) : a ≠ b := by
  rintro rfl
  obtain ⟨c, hc, _⟩ := r
  rw [hc] at ha
  simp at ha
  exact hne ha.2
theorem ends_oct {w : World} {a g : Nat} {ca : Array Value} {cur : List Value} (ha : w.heap[a]? = some (.cells ca 83 (0, 0))) (h : Oct g cur w) : a ≠ g := by
  rintro rfl
  unfold Oct at h
  rw [ha] at h
  simp at h
theorem Ends.eq {B : Nat} {ae aE : Addr} {w w' : World} (h : Ends B ae aE w) {R gb S g : Nat} (o : Only (fun j => j = g ∨ j = S ∨ j = R ∨ j = gb) w w') (hb : B ≤ g ∧ B ≤ S ∧ B ≤ R ∧ B ≤ gb) {F : Nat → Value} (hR : w.rowIs R 88 7 F) {F' : Nat → Value} (hS : w.rowIs S 28 4 F') {cur : List Value} (hg : Oct g cur w) {cur' : List Value} (hgb : Oct gb cur' w) :
    ae = aE ∨ (ae ≠ aE ∧ (∃ ca, w'.heap[ae.block]? = some (.cells ca 83 (0, 0))) ∧ (∃ cb tb, w'.heap[aE.block]? = some (.cells cb tb (0, 0))) ∧ (binOp .eql 24 (.iface 81 (.pointer (some ae))) (.iface 81 (.pointer (some aE)))).run Ybaf.prog w' = .ok (.bool false) w') := by
  rcases h with h | ⟨h1, ⟨ca, h2⟩, ⟨cb, tb, h3⟩, h4⟩
  · exact .inl h
  · have e1 : w'.heap[ae.block]? = some (.cells ca 83 (0, 0)) := (o.block _ (by
      rintro (e | e | e | e)
      · exact ends_oct h2 hg e
      · exact ends_ne h2 hS (by decide) e
      · exact ends_ne h2 hR (by decide) e
      · exact ends_oct h2 hgb e)).trans h2
    have e2 : w'.heap[aE.block]? = some (.cells cb tb (0, 0)) := (o.block _ (by omega)).trans h3
    obtain ⟨i, hi, hcmp⟩ := Option.map_eq_some_iff.1 Ybaf.isComp
    obtain ⟨j, hj, hjs⟩ := Option.map_eq_some_iff.1 Ybaf.isSize
    exact .inr ⟨h1, ⟨ca, e1⟩, ⟨cb, tb, e2⟩, run_eql_iface_ptr_other (P := Ybaf.prog) w' Ybaf.underlying24 Ybaf.underlying81 hi hcmp hj (by rw [hjs]; decide) h1 e1 e2⟩

set_option maxHeartbeats 2000000 in
set_option maxRecDepth 100000 in
theorem readAtLeast (B R gb S g : Nat) (da : Option Addr) (N cap k : Nat) (dat : Nat → Nat) (ae aE aU : Addr) (n : Nat) (w : World) (h : Stand B R gb S g da N cap k dat ae n 0 w w) (hgB : B ≤ g) (hgb : g ≠ gb) (hn : n ≤ 255) (hB : 3 < B)
    (g0 : w.cell? ⟨0, 0, none⟩ = some (.iface 81 (.pointer (some aE)))) (g3 : w.cell? ⟨3, 0, none⟩ = some (.iface 81 (.pointer (some aU)))) (hE : Ends B ae aE w) :
    Calls Ybaf.prog 42 #[.iface 30 (.pointer (some ⟨R, 0, none⟩)), .slice (some ⟨g, 0, none⟩) n n, .int .i64 n] w fun e w' => FullPost B R gb S g da N cap k dat ae aE aU n w e w' := by
  obtain ⟨r0, wp0, cb0, hb0⟩ := h.bst
  have hbl : B ≤ g ∧ B ≤ S ∧ B ≤ R ∧ B ≤ gb := ⟨hgB, hb0.src.old, hb0.old.1, hb0.old.2⟩
  have HE : Hid (∀ w', Only (fun j => j = g ∨ j = S ∨ j = R ∨ j = gb) w w' → ae = aE ∨ (ae ≠ aE ∧ (∃ ca, w'.heap[ae.block]? = some (.cells ca 83 (0, 0))) ∧ (∃ cb tb, w'.heap[aE.block]? = some (.cells cb tb (0, 0))) ∧ (binOp .eql 24 (.iface 81 (.pointer (some ae))) (.iface 81 (.pointer (some aE)))).run Ybaf.prog w' = .ok (.bool false) w')) := fun w' o => by
    obtain ⟨F, hr, _⟩ := hb0.row
    exact hE.eq o hbl hr hb0.src.row h.oct hb0.buf
  have HH := hide h
  clear h hE hb0
  go_enter Ybaf.func42, Ybaf.ntmps42
  go_wp2_with fail
  go_loopw [6, 7] (fun nv ev wr => ∃ m : Nat, nv = .int .i64 m ∧ Stand B R gb S g da N cap k dat ae n m w wr ∧ (ev = .nilIface ∨ (ev = .iface 81 (.pointer (some ae)) ∧ m = N ∧ m < n))) (fun nv ev _ => 2 * (n - (intOf nv).toNat) + (match ev with | .nilIface => 1 | _ => 0))
  case atStart => exact ⟨0, rfl, unhide HH, .inl rfl⟩
  case round =>
    obtain ⟨m, rfl, hst, hev⟩ := hrel
    have hle := hst.le
    have hc0 := (hst.only.cell (a := ⟨0, 0, none⟩) (by show ¬ (0 = g ∨ 0 = S ∨ 0 = R ∨ 0 = gb); omega)).trans g0
    have hc3 := (hst.only.cell (a := ⟨3, 0, none⟩) (by show ¬ (3 = g ∨ 3 = S ∨ 3 = R ∨ 3 = gb); omega)).trans g3
    have HST := hide hst
    clear hst HH
    by_cases hmn : m < n
    · rcases hev with rfl | ⟨rfl, rfl, _⟩
      · have t1 : m ≤ n := by omega
        have t2 : (m : Int) ≤ (n : Int) := by omega
        have t3 : ¬ n = m := by omega
        go_wp2_with fail
        go_region_with (first | (go_at_call 71; refine ((unhide HST).drew.read hgB hgb hmn hn).mono ?_; rintro e w1 ⟨c, ev, rfl, hs, hle1, hc⟩; have HS1 := hide hs; have HC := hide hc; clear hs hc))
        go_wp2_with fail
        go_roundw
        case rel =>
          refine ⟨m + c, by simp, unhide HS1, ?_⟩
          rcases unhide HC with ⟨h1, h2, h3⟩ | ⟨h1, h2⟩
          · exact .inr ⟨h3, by omega, by omega⟩
          · exact .inl h2
        case measure =>
          rcases unhide HC with ⟨h1, h2, h3⟩ | ⟨h1, h2⟩
          · subst h3 h1; simp [intOf]
          · subst h2; simp [intOf]; omega
      · rcases unhide HE _ (unhide HST).only with rfl | ⟨hne, _, _, heq⟩
        · obtain ⟨i, hi, hcmp⟩ := Option.map_eq_some_iff.1 Ybaf.isComp
          obtain ⟨j, hj, hjs⟩ := Option.map_eq_some_iff.1 Ybaf.isSize
          have heq := run_eql_iface_ptr_same (P := Ybaf.prog) wr ae Ybaf.underlying24 Ybaf.underlying81 hi hcmp hj
          by_cases hm0 : 0 < m
          · go_wp2_with fail
            go_ret2
            exact .inr ⟨hmn, by rw [if_pos ⟨hm0, rfl⟩]; rfl, unhide HST⟩
          · go_wp2_with fail
            go_ret2
            exact .inr ⟨hmn, by rw [if_neg (fun e => hm0 e.1)]; rfl, unhide HST⟩
        · by_cases hm0 : 0 < m
          · go_wp2_with fail
            go_ret2
            exact .inr ⟨hmn, by rw [if_neg (fun e => hne e.2)]; rfl, unhide HST⟩
          · go_wp2_with fail
            go_ret2
            exact .inr ⟨hmn, by rw [if_neg (fun e => hne e.2)]; rfl, unhide HST⟩
    · have hme : m = n := by omega
      subst hme
      go_wp2_with fail
      go_ret2
      exact .inl ⟨hle.2, rfl, unhide HST⟩

set_option maxRecDepth 100000 in
theorem readFull (B R gb S g : Nat) (da : Option Addr) (N cap k : Nat) (dat : Nat → Nat) (ae aE aU : Addr) (n : Nat) (w : World) (h : Stand B R gb S g da N cap k dat ae n 0 w w) (hgB : B ≤ g) (hgb : g ≠ gb) (hn : n ≤ 255) (hB : 3 < B)
    (g0 : w.cell? ⟨0, 0, none⟩ = some (.iface 81 (.pointer (some aE)))) (g3 : w.cell? ⟨3, 0, none⟩ = some (.iface 81 (.pointer (some aU)))) (hE : Ends B ae aE w) :
    Calls Ybaf.prog 24 #[.iface 30 (.pointer (some ⟨R, 0, none⟩)), .slice (some ⟨g, 0, none⟩) n n] w fun e w' => FullPost B R gb S g da N cap k dat ae aE aU n w e w' := by
  have HR := hide (readAtLeast B R gb S g da N cap k dat ae aE aU n w h hgB hgb hn hB g0 g3 hE)
  clear h hE
  go_enter Ybaf.func24, Ybaf.ntmps24
  go_wp2_with (go_at_call 42; refine (unhide HR).mono ?_; rintro e w1 hp; unfold FullPost at hp; generalize hav : (if 0 < N ∧ ae = aE then aU else ae) = av at hp; rcases hp with ⟨h1, rfl, h2⟩ | ⟨h1, rfl, h2⟩)
  · go_ret2
    exact .inl ⟨h1, rfl, h2⟩
  · go_ret2
    exact .inr ⟨h1, by rw [hav]; rfl, h2⟩
end Go.Proofs.YbulkcyvkFmt
