/-
  What interfaceDescription (20) leaves where an interface is appended (the walks: AppL, AppB).
-/
import Derived.Test.YbulkcyvkFmtBody
import Derived.Deep.AppendLies
import Derived.OneCell
namespace Go.Proofs.YbulkcyvkFmt
open Go.RowKit Go.Extern.Stop Go.Stop Go.Extern
set_option maxRecDepth 100000

theorem owns_of_block {w w' : World} {base : Nat} {e : TypeId} {size : Nat} {v : Value} {n : Nat} {xs : List Value} (h : w.ownsRow base e size v n xs) (hb : ∀ g, v.ownBlock = some g → w'.heap[g]? = w.heap[g]?) : w'.ownsRow base e size v n xs := by
  obtain ⟨h1, h2 | ⟨g, cap, cur, rfl, h3, h4, h5⟩⟩ := h
  · exact ⟨h1, .inl h2⟩
  · exact ⟨h1, .inr ⟨g, cap, cur, rfl, h3, by rw [hb g rfl]; exact h4, h5⟩⟩
theorem owns_ne {w : World} {base : Nat} {e : TypeId} {size : Nat} {v : Value} {n : Nat} {xs : List Value} (h : w.ownsRow base e size v n xs) {b : Nat} {t : TypeId} {k : Nat} {f : Nat → Value} (r : w.rowIs b t k f) (hne : t ≠ e) : v.ownBlock ≠ some b := by
  intro he
  obtain ⟨h1, h2 | ⟨g, cap, cur, rfl, h3, h4, h5⟩⟩ := h
  · rw [h2.1] at he; cases he
  · cases he
    obtain ⟨c, hc, _⟩ := r
    rw [hc] at h4
    simp at h4
    exact hne h4.2
theorem own_shape {w : World} {base : Nat} {e : TypeId} {size : Nat} {v : Value} {n : Nat} {xs : List Value} (h : w.ownsRow base e size v n xs) : ∃ a m c, v = .slice a m c := by
  obtain ⟨_, ⟨rfl, _⟩ | ⟨g, cap, cur, rfl, _⟩⟩ := h
  · exact ⟨_, _, _, rfl⟩
  · exact ⟨_, _, _, rfl⟩

theorem cell4_of {w : World} {Rd : Nat} {v u : Value} (h : w.cell? ⟨Rd, 4, none⟩ = some v) : (w.setCell ⟨Rd, 5, none⟩ u).cell? ⟨Rd, 4, none⟩ = some v := by simp [go_sem, h]
/-- What dispatching blocks the reading and the append may turn. -/
def Turns (Rd R gb S : Nat) (iv : Value) : Nat → Prop := fun j => j = Rd ∨ j = R ∨ j = gb ∨ j = S ∨ iv.ownBlock = some j
/-- The Reader's row once its eight octets are read. -/
def gotG (G : Nat → Value) (dat : Nat → Nat) (left : Nat) : Nat → Value := putF (upd G 6 (.int .u32 ((left : Int) - 8))) 7 (bytes dat 0 8)
theorem gotG_oct (G : Nat → Value) (dat : Nat → Nat) (left i : Nat) (hi : i < 8) : gotG G dat left (7 + i) = .int .u8 (dat i : Int) := by
  unfold gotG putF
  rw [if_pos ⟨by omega, by rw [bytes_len]; omega⟩, Nat.add_sub_cancel_left, List.getD_eq_getElem?_getD, bytes_at _ _ _ _ hi, Nat.zero_add]
  rfl
theorem gotG_low (G : Nat → Value) (dat : Nat → Nat) (left i : Nat) (hi : i < 6) : gotG G dat left i = G i := by
  unfold gotG putF upd
  rw [if_neg (by omega), if_neg (by omega)]

structure Gotten (B Rd R gb S : Nat) (N : Nat) (dat : Nat → Nat) (G : Nat → Value) (base : Nat) (iv : Value) (T : Nat) (left il : Nat) (xs : List Value) (w w' : World) : Prop where
  rd : w'.rowIs Rd 44 33 (gotG G dat left)
  br : ∃ c, c = min 16 N ∧ BR R gb S 8 c w' ∧ ∃ H, w'.rowIs gb 5 16 (putF H 0 (bytes dat 0 c))
  own : w'.ownsRow base 56 2 iv il xs
  grew0 : Grew (Turns Rd R gb S iv) w w'
  g5 : G 5 = iv
  g4 : G 4 = .iface T (.agg #[])

section
variable {B Rd R gb S : Nat} {N cap : Nat} {dat : Nat → Nat} {G : Nat → Value} {base : Nat} {iv : Value} {T left il : Nat} {xs : List Value} {w w' w'' : World}
theorem Gotten.c5 (h : Gotten B Rd R gb S N dat G base iv T left il xs w w') : w'.cell? ⟨Rd, 5, none⟩ = some iv := by rw [h.rd.cell (by omega), gotG_low _ _ _ _ (by omega), h.g5]
theorem Gotten.c4 (h : Gotten B Rd R gb S N dat G base iv T left il xs w w') : w'.cell? ⟨Rd, 4, none⟩ = some (.iface T (.agg #[])) := by rw [h.rd.cell (by omega), gotG_low _ _ _ _ (by omega), h.g4]
theorem Gotten.cell (h : Gotten B Rd R gb S N dat G base iv T left il xs w w') (i : Nat) (hi : i < 8) : w'.cell? ⟨Rd, 7 + i, none⟩ = some (.int .u8 (dat i : Int)) := by rw [h.rd.cell (by omega), gotG_oct _ _ _ _ hi]
theorem Gotten.grew (h : Gotten B Rd R gb S N dat G base iv T left il xs w w') (g : Grew (fun _ => False) w' w'') : Gotten B Rd R gb S N dat G base iv T left il xs w w'' := by
  obtain ⟨c, hc, ⟨F, hr, hF⟩, H, hH⟩ := h.br
  exact ⟨g.row (fun e => e) h.rd, ⟨c, hc, ⟨F, g.row (fun e => e) hr, hF⟩, H, g.row (fun e => e) hH⟩, owns_of_block h.own (fun k e => g.block k (h.own.lt k e).2 (fun e => e)), h.grew0.trans (g.mono (fun k e => e.elim)), h.g5, h.g4⟩
theorem Gotten.alloc (h : Gotten B Rd R gb S N dat G base iv T left il xs w w') (o : Obj) : Gotten B Rd R gb S N dat G base iv T left il xs w (w'.alloc o) := h.grew ((Grew.refl _ w').alloc o)
theorem Gotten.drew (h : Gotten B Rd R gb S N dat G base iv T left il xs w w') : Gotten B Rd R gb S N dat G base iv T left il xs w w'.drew := h.grew ((Grew.refl _ w').drew)
theorem Gotten.sized (h : Gotten B Rd R gb S N dat G base iv T left il xs w w') (hb : base ≤ w.heap.size) : base ≤ w'.heap.size := Nat.le_trans hb h.grew0.size

/-- The interface is appended, the field not yet stored. -/
structure Appended (B Rd R gb S : Nat) (N : Nat) (dat : Nat → Nat) (G : Nat → Value) (base : Nat) (iv : Value) (T : Nat) (left il : Nat) (xs : List Value) (w : World) (v' : Value) (lt sl : Int) (w' : World) : Prop where
  rd : w'.rowIs Rd 44 33 (gotG G dat left)
  br : ∃ c, c = min 16 N ∧ BR R gb S 8 c w' ∧ ∃ H, w'.rowIs gb 5 16 (putF H 0 (bytes dat 0 c))
  own : w'.ownsRow base 56 2 v' (il + 1) (xs ++ [.int .u16 lt, .int .u32 sl])
  grew0 : Grew (Turns Rd R gb S iv) w w'
  g5 : G 5 = iv
  g4 : G 4 = .iface T (.agg #[])
theorem Gotten.appended (h : Gotten B Rd R gb S N dat G base iv T left il xs w w') {v' : Value} {lt sl : Int} (own : w''.ownsRow base 56 2 v' (il + 1) (xs ++ [.int .u16 lt, .int .u32 sl])) (g : w'.grownBy w'' iv.ownBlock) : Appended B Rd R gb S N dat G base iv T left il xs w v' lt sl w'' := by
  obtain ⟨c, hc, ⟨F, hr, hF⟩, H, hH⟩ := h.br
  have kp : ∀ {b t n f}, w'.rowIs b t n f → t ≠ 56 → w''.rowIs b t n f := fun {b t n f} r hne => r.of_block (g.block b r.lt (fun e => owns_ne h.own r hne e.symm))
  refine ⟨kp h.rd (by decide), ⟨c, hc, ⟨F, kp hr (by decide), hF⟩, H, kp hH (by decide)⟩, own, h.grew0.trans ⟨g.os, g.tape, g.output, g.size, fun k hk hx => g.block k hk (fun e => hx (.inr (.inr (.inr (.inr e.symm)))))⟩, h.g5, h.g4⟩
section
variable {v' : Value} {lt sl : Int}
theorem Appended.shape (h : Appended B Rd R gb S N dat G base iv T left il xs w v' lt sl w') : ∃ a m c, v' = .slice a m c := own_shape h.own
theorem Appended.c5 (h : Appended B Rd R gb S N dat G base iv T left il xs w v' lt sl w') : w'.cell? ⟨Rd, 5, none⟩ = some iv := by rw [h.rd.cell (by omega), gotG_low _ _ _ _ (by omega), h.g5]
theorem Appended.c4 (h : Appended B Rd R gb S N dat G base iv T left il xs w v' lt sl w') : w'.cell? ⟨Rd, 4, none⟩ = some (.iface T (.agg #[])) := by rw [h.rd.cell (by omega), gotG_low _ _ _ _ (by omega), h.g4]
theorem Appended.f5 (h : Appended B Rd R gb S N dat G base iv T left il xs w v' lt sl w') : w'.frozen? ⟨Rd, 5, none⟩ = false := h.rd.frozen 5
end
/-- The interface is appended and stored. -/
structure Done (B Rd R gb S : Nat) (N : Nat) (dat : Nat → Nat) (G : Nat → Value) (base : Nat) (iv : Value) (lt sl : Int) (left il : Nat) (xs : List Value) (w w' : World) : Prop where
  all : ∃ v', w'.ownsRow base 56 2 v' (il + 1) (xs ++ [.int .u16 lt, .int .u32 sl]) ∧ w'.rowIs Rd 44 33 (upd (gotG G dat left) 5 v')
  br : ∃ c, c = min 16 N ∧ BR R gb S 8 c w' ∧ ∃ H, w'.rowIs gb 5 16 (putF H 0 (bytes dat 0 c))
  grew0 : Grew (Turns Rd R gb S iv) w w'
theorem Appended.done {v' : Value} {lt sl : Int} (h : Appended B Rd R gb S N dat G base iv T left il xs w v' lt sl w') : Done B Rd R gb S N dat G base iv lt sl left il xs w (w'.setCell ⟨Rd, 5, none⟩ v') := by
  obtain ⟨c, hc, ⟨F, hr, hF⟩, H, hH⟩ := h.br
  refine ⟨⟨v', owns_of_block h.own (fun k e => Below.heap_setCell _ _ _ _ (fun e' => owns_ne h.own h.rd (by decide) (by have h1 : k = Rd := e'; rw [h1] at e; exact e))), row_set h.rd 5 v'⟩, ⟨c, hc, ⟨F, hr.setOther (a := ⟨Rd, 5, none⟩) (row_ne hr h.rd (by decide)) _, hF⟩, H, hH.setOther (a := ⟨Rd, 5, none⟩) (row_ne hH h.rd (by decide)) _⟩, h.grew0.setCell (a := ⟨Rd, 5, none⟩) (.inl rfl) _⟩
end

section
variable {B Rd R gb S : Nat} {da : Option Addr} {N cap : Nat} {dat : Nat → Nat} {aE aU : Addr} {G : Nat → Value} {w : World}
theorem gotten_of {base : Nat} {iv : Value} {T left il : Nat} {xs : List Value} {w' : World} (h : CReady B Rd R gb S da N cap dat aE aU G w) (h5 : G 5 = iv) (h4 : G 4 = .iface T (.agg #[])) (hown : w.ownsRow base 56 2 iv il xs)
    (g : CGot B Rd R gb S N dat (upd G 6 (.int .u32 ((left : Int) - 8))) (w.setCell ⟨Rd, 6, none⟩ (.int .u32 ((left : Int) - 8))) w') : Gotten B Rd R gb S N dat G base iv T left il xs w w' := by
  obtain ⟨F, hr, _⟩ := h.br.row
  obtain ⟨H, hH⟩ := h.gbr
  have hgr : Grew (fun j => j = Rd ∨ j = R ∨ j = gb ∨ j = S) w w' := (((Grew.refl (fun j => j = Rd ∨ j = R ∨ j = gb ∨ j = S) w).setCell (a := ⟨Rd, 6, none⟩) (.inl rfl) _)).trans g.only.grew
  refine ⟨g.rd, g.br, owns_of_block hown (fun k e => hgr.block k (hown.lt k e).2 ?_), hgr.mono (fun k e => ?_), h5, h4⟩
  · rintro (e' | e' | e' | e')
    · exact owns_ne hown h.rd (by decide) (e' ▸ e)
    · exact owns_ne hown hr (by decide) (e' ▸ e)
    · exact owns_ne hown hH (by decide) (e' ▸ e)
    · exact owns_ne hown h.cs.row (by decide) (e' ▸ e)
  · rcases e with e | e | e | e
    · exact .inl e
    · exact .inr (.inl e)
    · exact .inr (.inr (.inl e))
    · exact .inr (.inr (.inr (.inl e)))

@[go_sem] theorem method16_70 (v : Value) (w : World) : (Go.method 368 70 v "Uint16").run Ybaf.prog w = .ok (80, v) w := by kernel_rfl
@[go_sem] theorem method32_70 (v : Value) (w : World) : (Go.method 368 70 v "Uint32").run Ybaf.prog w = .ok (31, v) w := by kernel_rfl

@[go_sem] theorem method16_71 (v : Value) (w : World) : (Go.method 368 71 v "Uint16").run Ybaf.prog w = .ok (87, v) w := by kernel_rfl
@[go_sem] theorem method32_71 (v : Value) (w : World) : (Go.method 368 71 v "Uint32").run Ybaf.prog w = .ok (45, v) w := by kernel_rfl

end
end Go.Proofs.YbulkcyvkFmt
