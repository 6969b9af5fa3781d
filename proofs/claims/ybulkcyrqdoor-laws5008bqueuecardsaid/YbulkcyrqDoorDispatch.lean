/-
  Wheel.dispatch (7).
-/
import Derived.Test.YbulkcyrqDoorTake
import Derived.Test.YbulkcyrqDoorTry
import Derived.Defers
namespace Go.Proofs.YbulkcyrqDoor
open Go.RowKit Go.MuLone

theorem own_shape {w : World} {base : Nat} {e : TypeId} {size : Nat} {v : Value} {n : Nat} {xs : List Value} (h : w.ownsRow base e size v n xs) : ∃ a m c, v = .slice a m c := by
  obtain ⟨_, ⟨rfl, _⟩ | ⟨g, cap, cur, rfl, _⟩⟩ := h
  · exact ⟨_, _, _, rfl⟩
  · exact ⟨_, _, _, rfl⟩

/-- What dispatch leaves. -/
structure Disp (W : Nat) (S : Nat → Prop) (base : Nat) (v : Value) (n : Nat) (xs : List Value) (Dv : Nat) (head : Int) (L : List Nat) (Du : Nat → Int) (hd : Option Nat) (cnt : Int) (w : World) (v' : Value) (w' : World) : Prop where
  own : w'.ownsRow base 26 1 v' (n + L.length) (xs ++ L.map ptr)
  tim : ∀ t ∈ L, Tim t (Du t) none 1 w'
  grew : Grew (fun k => S k ∨ k = Dv ∨ k ∈ L ∨ v.ownBlock = some k) w w'
  drv : Drv Dv v' head w'
  row : ∃ F, w'.rowIs W 66 22 F ∧ F 4 = .int .i32 0 ∧ F 20 = .pointer (some ⟨Dv, 0, none⟩) ∧ F 11 = tp hd ∧ F 12 = .int .i64 cnt

set_option maxHeartbeats 1000000 in
set_option maxRecDepth 100000 in
theorem dispatch_any (W A l0 la Dv base : Nat) (S : Nat → Prop) (hS : S W) (hSD : ¬ S Dv) (v : Value) (n : Nat) (xs : List Value) (Du : Nat → Int) (now p : Int) (hd hd' : Option Nat) (cnt cnt' head : Int) (st : Bool) (L : List Nat) (w : World)
    (hW : Whe W A l0 la Dv 0 now p hd cnt st w) (hD : Drv Dv v head w) (hown : w.ownsRow base 26 1 v n xs) (hL : ∀ t ∈ L, ∃ f, w.rowIs t 31 9 f)
    (hT : ∀ w1, Only (fun k => k = W) w w1 → Whe W A l0 la Dv 1 now p hd cnt st w1 → Calls Ybad.prog 13 #[.pointer (some ⟨W, 0, none⟩), v] w1 fun e w' => ∃ v', e = .returned v' ∧ Took W S base v n xs 1 Dv L Du hd' cnt' w1 v' w') :
    Calls Ybad.prog 7 #[.pointer (some ⟨W, 0, none⟩)] w fun e w' => e = .returned (.tuple #[]) ∧ ∃ v', Disp W S base v n xs Dv head L Du hd' cnt' w v' w' := by
  obtain ⟨⟨F, f1, f2⟩, a1⟩ := hW
  obtain ⟨G, g1, g2, g3⟩ := hD
  have x4 : w.cell? ⟨W, 4, none⟩ = some (.int .i32 0) := by rw [f1.cell (by omega), f2.lk]
  have z4 := f1.frozen 4
  have x20 : w.cell? ⟨W, 20, none⟩ = some (.pointer (some ⟨Dv, 0, none⟩)) := by rw [f1.cell (by omega), f2.drv]
  have y7 : w.cell? ⟨Dv, 7, none⟩ = some v := by rw [g1.cell (by omega), g2]
  have hWD := row_ne f1 g1 (by decide)
  have hDW := Ne.symm hWD
  have hWA := row_ne f1 a1 (by decide)
  have o1 : Only (fun k => k = W) w (w.setCell ⟨W, 4, none⟩ (.int .i32 1)) := (Only.refl (fun k => k = W) w).setCell (a := ⟨W, 4, none⟩) rfl _
  have hW1 : Whe W A l0 la Dv 1 now p hd cnt st (w.setCell ⟨W, 4, none⟩ (.int .i32 1)) := by
    refine ⟨⟨_, row_set f1 4 _, ?_⟩, a1.setOther (a := ⟨W, 4, none⟩) (Ne.symm hWA) _⟩
    obtain ⟨e1, e2, e3, e4, e5, e6, e7, e8, e9, e10, e11⟩ := f2
    constructor <;> simp [upd, *]
  have HT := hide (hT _ o1 hW1)
  have hDL : Dv ∉ L := fun e => by obtain ⟨f, r⟩ := hL Dv e; exact row_ne r g1 (by decide) rfl
  have hDo : v.ownBlock ≠ some Dv := owns_ne hown g1 (by decide)
  have hWo : v.ownBlock ≠ some W := owns_ne hown f1 (by decide)
  have HG := hide g1
  have HO1 := hide o1
  clear hT hW1 o1 f1 f2 a1 g1 g2 hown
  go_enter_defers Ybad.func7, Ybad.ntmps7
  go_wp2_with (first
    | (go_at_call 12; refine (lock_free Ybad.muLib ⟨W, 4, none⟩ _ x4 z4).mono ?_; rintro e w' ⟨rfl, rfl⟩)
    | (go_at_call 13; refine (unhide HT).mono ?_; rintro e w1 ⟨v', rfl, hk⟩
       obtain ⟨va, vm, vc, rfl⟩ := own_shape hk.own
       have rD := hk.grew.row (b := Dv) (by rintro (e | e | e); exact hSD e; exact hDL e; exact hDo e) ((unhide HO1).row hDW (unhide HG))
       have q7 := rD.cell (i := 7) (by omega)
       have k7 := rD.frozen 7
       have HRD := hide rD; have HK := hide hk; clear rD hk))
  obtain ⟨F1, r1, r2, r3, r4, r5⟩ := (unhide HK).row
  have s1 := r1.setOther (a := ⟨Dv, 7, none⟩) hWD (.slice va vm vc)
  refine leaves_cons (f := 9) (args := #[.pointer (some ⟨W, 4, none⟩)]) (by simp) (by simp [go_sem]) ?_
  refine (unlock_deferred Ybad.muLib ⟨W, 4, none⟩ .returning _ ?_ ?_).mono ?_
  · rw [s1.cell (by omega), r2]
  · exact s1.frozen 4
  rintro e u' w'' ⟨rfl, rfl, rfl⟩
  refine ⟨_, results_none rfl _ _ _, rfl, .slice va vm vc, ?_⟩
  have hvD : (Value.slice va vm vc).ownBlock ≠ some Dv := fun e => by
    rcases (unhide HK).blk Dv e with h | h
    · exact hDo h
    · have := (unhide HG).lt
      rw [size_set] at h
      omega
  have hvW : (Value.slice va vm vc).ownBlock ≠ some W := owns_ne (unhide HK).own r1 (by decide)
  have G1 : Grew (fun k => k = Dv ∨ k = W) w1 ((w1.setCell ⟨Dv, 7, none⟩ (.slice va vm vc)).setCell ⟨W, 4, none⟩ (.int .i32 0)) := ((Grew.refl (fun k => k = Dv ∨ k = W) w1).setCell (a := ⟨Dv, 7, none⟩) (fun _ => .inl rfl) _).setCell (a := ⟨W, 4, none⟩) (fun _ => .inr rfl) _
  refine ⟨?_, ?_, ?_, ⟨_, (row_set (unhide HRD) 7 _).setOther (a := ⟨W, 4, none⟩) hDW _, by simp [upd], by simp [upd, g3]⟩, ⟨_, row_set s1 4 _, by simp [upd], by simp [upd, r3], by simp [upd, r4], by simp [upd, r5]⟩⟩
  · exact G1.owns (unhide HK).own (fun g e h => by
      rcases h with h | h
      · exact hvD (h ▸ e)
      · exact hvW (h ▸ e))
  · intro t ht
    have htt := (unhide HK).tim t ht
    refine G1.tim ?_ htt
    obtain ⟨f, rf, _⟩ := htt
    rintro (e | e)
    · exact row_ne rf (unhide HRD) (by decide) e
    · exact row_ne rf r1 (by decide) e
  · have G0 := ((unhide HO1).grew.mono (T := fun k => S k ∨ k = Dv ∨ k ∈ L ∨ v.ownBlock = some k) (fun i _ e => .inl (e ▸ hS)))
    refine (G0.trans (unhide HK).grew (fun i _ e => by
      rcases e with e | e | e
      · exact .inl e
      · exact .inr (.inr (.inl e))
      · exact .inr (.inr (.inr e)))).trans G1 (fun i _ e => by
      rcases e with e | e
      · exact .inr (.inl e)
      · exact .inl (e ▸ hS))
end Go.Proofs.YbulkcyrqDoor
