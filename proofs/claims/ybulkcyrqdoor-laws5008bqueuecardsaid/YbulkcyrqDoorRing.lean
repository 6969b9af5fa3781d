/-
  RINGS AND TIMERS: what they are in memory; push and take on them.
-/
import Derived.Test.YbulkcyrqDoorLevel
namespace Go.Proofs.YbulkcyrqDoor
open Go.RowKit

/-- A timer: its due tick, the next of its list, its runs taken. -/
def Tim (b : Nat) (due : Int) (nx : Option Nat) (tk : Int) (w : World) : Prop :=
  ∃ f, w.rowIs b 31 9 f ∧ f 3 = .int .i64 due ∧ f 6 = tp nx ∧ f 7 = .int .u32 tk

theorem row_ne {w : World} {a b : Nat} {t t' : TypeId} {n n' : Nat} {f f' : Nat → Value} (h : w.rowIs a t n f) (k : w.rowIs b t' n' f') (hne : t ≠ t') : a ≠ b := by
  rintro rfl
  obtain ⟨c, hc, _⟩ := h
  obtain ⟨c', hc', _⟩ := k
  rw [hc] at hc'
  simp at hc'
  exact hne hc'.2
theorem Tim.of_block {b : Nat} {due : Int} {nx : Option Nat} {tk : Int} {w w' : World} (h : Tim b due nx tk w) (e : w'.heap[b]? = w.heap[b]?) : Tim b due nx tk w' := by
  obtain ⟨f, r, a⟩ := h
  exact ⟨f, r.of_block e, a⟩
theorem Tim.row {b : Nat} {due : Int} {nx : Option Nat} {tk : Int} {w : World} (h : Tim b due nx tk w) : ∃ f, w.rowIs b 31 9 f := ⟨_, h.choose_spec.1⟩

structure Ring (l s u : Nat) (R : Nat → List Nat) (cb : Nat) (w : World) : Prop where
  lev : ∃ c : Nat, w.rowIs l 76 4 (levF s u c) ∧ c ≤ cb ∧ (c = 0 ↔ ∀ j, j < 64 → R j = [])
  used : ∃ m : Nat, w.rowIs u 45 1 (oneF (.int .u64 m)) ∧ m < 18446744073709551616 ∧ ∀ j, j < 64 → (m.testBit j = true ↔ R j ≠ [])
  slots : w.rowIs s 61 256 (slotsF l (fun j => tp (R j).head?) (fun j => ((R j).length : Int)))

def put (R : Nat → List Nat) (j t : Nat) : Nat → List Nat := fun i => if i = j then t :: R j else R i

theorem slots_put {l s t j : Nat} {R : Nat → List Nat} {w : World} (h : w.rowIs s 61 256 (upd (upd (slotsF l (fun j => tp (R j).head?) (fun j => ((R j).length : Int))) (j * 4) (tp (some t))) (j * 4 + 1) (.int .i64 (((R j).length : Int) + 1)))) :
    w.rowIs s 61 256 (slotsF l (fun i => tp ((put R j t) i).head?) (fun i => (((put R j t) i).length : Int))) := by
  refine h.congr fun o _ => ?_
  unfold upd slotsF put
  by_cases e1 : o = j * 4 + 1
  · subst e1
    rw [if_pos rfl, if_neg (by omega), if_pos (by omega), show (j * 4 + 1) / 4 = j from by omega]
    simp
  rw [if_neg e1]
  by_cases e0 : o = j * 4
  · subst e0
    rw [if_pos rfl, if_pos (by omega), show j * 4 / 4 = j from by omega]
    simp
  rw [if_neg e0]
  by_cases h0 : o % 4 = 0
  · rw [if_pos h0, if_pos h0]
    dsimp only
    rw [if_neg (show ¬ o / 4 = j by omega)]
  rw [if_neg h0, if_neg h0]
  by_cases h1 : o % 4 = 1
  · rw [if_pos h1, if_pos h1]
    dsimp only
    rw [if_neg (show ¬ o / 4 = j by omega)]
  rw [if_neg h1, if_neg h1]

theorem ring_put {l s u j t cb : Nat} {R : Nat → List Nat} {w : World} (hj : j < 64) (hlev : ∃ c : Nat, w.rowIs l 76 4 (levF s u c) ∧ c ≤ cb ∧ c ≠ 0)
    (hused : ∃ m : Nat, w.rowIs u 45 1 (oneF (.int .u64 m)) ∧ m < 18446744073709551616 ∧ m.testBit j = true ∧ ∀ i, i < 64 → i ≠ j → (m.testBit i = true ↔ R i ≠ []))
    (h : w.rowIs s 61 256 (upd (upd (slotsF l (fun j => tp (R j).head?) (fun j => ((R j).length : Int))) (j * 4) (tp (some t))) (j * 4 + 1) (.int .i64 (((R j).length : Int) + 1)))) :
    Ring l s u (put R j t) cb w := by
  obtain ⟨c, c1, c2, c3⟩ := hlev
  obtain ⟨m, m1, m2, m3, m4⟩ := hused
  refine ⟨⟨c, c1, c2, fun e => absurd e c3, fun e => ?_⟩, ⟨m, m1, m2, fun i hi => ?_⟩, slots_put h⟩
  · have := e j hj
    simp [put] at this
  · by_cases e : i = j
    · subst e; simp [put, m3]
    · have := m4 i hi e
      simp only [put, if_neg e]
      exact this

/-- The blocks that a push may write. -/
def Touch (l s u t : Nat) (h : Option Nat) : Nat → Prop := fun k => k = s ∨ k = t ∨ k = l ∨ k = u ∨ h = some k

theorem ring_push (l s u j t cb : Nat) (R : Nat → List Nat) (w : World) (due : Int) (nx : Option Nat) (hj : j < 64) (hR : Ring l s u R cb w) (ht : Tim t due nx 0 w)
    (hhead : ∀ h, (R j).head? = some h → h ≠ t ∧ ∃ f, w.rowIs h 31 9 f) (hlen : (R j).length ≤ 2000) (hcb : cb ≤ 4000) :
    Calls Ybad.prog 5 #[.pointer (some ⟨s, j * 4, none⟩), .pointer (some ⟨t, 0, none⟩)] w fun e w' => e = .returned (.tuple #[]) ∧
      Ring l s u (put R j t) (cb + 1) w' ∧ Tim t due (R j).head? 0 w' ∧ (∀ h d n k, (R j).head? = some h → Tim h d n k w → Tim h d n k w') ∧ Only (Touch l s u t (R j).head?) w w' := by
  obtain ⟨c, c1, c2, c3⟩ := hR.lev
  obtain ⟨m, m1, m2, m3⟩ := hR.used
  have hs := hR.slots
  obtain ⟨T, t1, t2, t3, t4⟩ := ht
  have nst := row_ne hs t1 (by decide)
  have nsl := row_ne hs c1 (by decide)
  have nsu := row_ne hs m1 (by decide)
  have ntl := row_ne t1 c1 (by decide)
  have ntu := row_ne t1 m1 (by decide)
  have nlu := row_ne c1 m1 (by decide)
  have htim : ∀ (hn : Option Nat) (w' : World), w'.rowIs t 31 9 (upd (upd (upd T 4 (.pointer (some ⟨s, j * 4, none⟩))) 5 (.pointer none)) 6 (tp hn)) → Tim t due hn 0 w' := fun hn w' h => ⟨_, h, by simp [upd, t2], by simp [upd], by simp [upd, t4]⟩
  cases hh : (R j).head? with
  | none =>
    have hnil : R j = [] := by simpa using hh
    refine (push_first s 256 (j * 4) t l u j m _ T ((R j).length : Int) c w (by omega) (by omega) (by omega) (by omega) (by omega) hj m2 nst nsl nsu ntl ntu nlu hs t1 c1 m1 (by rw [slots0, hh]) (slots1 _ _ _ _) (slots2 _ _ _ _) (slots3 _ _ _ _)).mono ?_
    rintro e w' ⟨rfl, hp, l', u'⟩
    refine ⟨rfl, ring_put hj ⟨c + 1, by exact_mod_cast l', by omega, by omega⟩ ⟨_, u', Nat.or_lt_two_pow (n := 64) m2 (Nat.pow_lt_pow_right (by omega) hj), ?_, ?_⟩ hp.slot, htim none w' hp.tim, (fun h d n k e => by cases e), ?_⟩
    · simp [Nat.testBit_or]
    · intro i hi hne
      rw [Nat.testBit_or, Nat.testBit_two_pow_of_ne (Ne.symm hne), Bool.or_false]
      exact m3 i hi
    · exact hp.only.mono fun k e => by rcases e with e | e | e | e <;> simp [Touch, e]
  | some h =>
    obtain ⟨hne, H, h1⟩ := hhead h hh
    have nsh := row_ne hs h1 (by decide)
    have hnn : R j ≠ [] := by rintro e; rw [e] at hh; simp at hh
    refine (push_on s 61 256 (j * 4) t h _ T H ((R j).length : Int) w (by omega) (by omega) (by omega) nst nsh (Ne.symm hne) hs t1 h1 (by rw [slots0, hh]) (slots1 _ _ _ _)).mono ?_
    rintro e w' ⟨rfl, hp, h2⟩
    have hl' := hp.only.row (b := l) (by rintro (e | e | e); exact nsl e.symm; exact ntl e.symm; exact row_ne c1 h1 (by decide) e) c1
    have hu' := hp.only.row (b := u) (by rintro (e | e | e); exact nsu e.symm; exact ntu e.symm; exact row_ne m1 h1 (by decide) e) m1
    refine ⟨rfl, ring_put hj ⟨c, hl', by omega, fun e => hnn (c3.1 e j hj)⟩ ⟨m, hu', m2, (m3 j hj).2 hnn, fun i hi _ => m3 i hi⟩ hp.slot, htim (some h) w' hp.tim, ?_, ?_⟩
    · rintro h' d n k e ⟨f, f1, f2, f3, f4⟩
      cases e
      have : H = H := rfl
      obtain ⟨ca, g1, g2, g3⟩ := h1
      obtain ⟨cb', k1, k2, k3⟩ := f1
      rw [g1] at k1
      simp at k1
      subst k1
      have eq : ∀ i, i < 9 → H i = f i := fun i hi => by have := (g3 i hi).symm.trans (k3 i hi); simpa using this
      exact ⟨_, h2, by rw [upd_ne _ _ _ _ (by omega), eq 3 (by omega), f2], by rw [upd_ne _ _ _ _ (by omega), eq 6 (by omega), f3], by rw [upd_ne _ _ _ _ (by omega), eq 7 (by omega), f4]⟩
    · exact hp.only.mono fun k e => by rcases e with e | e | e <;> simp [Touch, e]
end Go.Proofs.YbulkcyrqDoor
