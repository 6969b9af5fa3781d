/-
  Wheel.takeDue (13).
-/
import Derived.Test.YbulkcyrqDoorExpire
namespace Go.Proofs.YbulkcyrqDoor
open Go.RowKit

/-- What takeDue leaves: L joins the batch, each of L has one run taken. -/
structure Took (W : Nat) (S : Nat → Prop) (base : Nat) (v : Value) (n : Nat) (xs : List Value) (lk : Int) (Dv : Nat) (L : List Nat) (Du : Nat → Int) (hd : Option Nat) (cnt : Int) (w : World) (v' : Value) (w' : World) : Prop where
  own : w'.ownsRow base 26 1 v' (n + L.length) (xs ++ L.map ptr)
  tim : ∀ t ∈ L, Tim t (Du t) none 1 w'
  grew : Grew (fun k => S k ∨ k ∈ L ∨ v.ownBlock = some k) w w'
  blk : ∀ k, v'.ownBlock = some k → v.ownBlock = some k ∨ w.heap.size ≤ k
  row : ∃ F, w'.rowIs W 66 22 F ∧ F 4 = .int .i32 lk ∧ F 20 = .pointer (some ⟨Dv, 0, none⟩) ∧ F 11 = tp hd ∧ F 12 = .int .i64 cnt

theorem took_none {W : Nat} {S : Nat → Prop} {base : Nat} {v : Value} {n : Nat} {xs : List Value} {Dv A l0 la : Nat} {Du : Nat → Int} {lk now p : Int} {hd : Option Nat} {cnt : Int} {st : Bool} {w w' : World}
    (hW : Whe W A l0 la Dv lk now p hd cnt st w) (ho : Only (fun _ => False) w w') (hown : w.ownsRow base 26 1 v n xs) : Took W S base v n xs lk Dv [] Du hd cnt w v w' := by
  obtain ⟨⟨F, f1, f2⟩, _⟩ := hW
  refine ⟨?_, by simp, (ho.mono (fun _ e => e.elim)).grew, fun k e => .inl e, ⟨F, ho.row (fun e => e) f1, f2.lk, f2.drv, f2.hd, f2.cnt⟩⟩
  simpa using ho.grew.owns hown (fun _ _ e => e)

set_option maxHeartbeats 1000000 in
set_option maxRecDepth 100000 in
theorem take_stop (W A l0 la Dv base : Nat) (S : Nat → Prop) (v : Value) (n : Nat) (xs : List Value) (Du : Nat → Int) (lk now p : Int) (hd : Option Nat) (cnt : Int) (w : World)
    (hW : Whe W A l0 la Dv lk now p hd cnt true w) (hown : w.ownsRow base 26 1 v n xs) :
    Calls Ybad.prog 13 #[.pointer (some ⟨W, 0, none⟩), v] w fun e w' => ∃ v', e = .returned v' ∧ Took W S base v n xs lk Dv [] Du hd cnt w v' w' := by
  have HW := hide hW
  have HO := hide hown
  obtain ⟨⟨F, f1, f2⟩, a1⟩ := hW
  have x19 : w.cell? ⟨W, 19, none⟩ = some (.bool true) := by rw [f1.cell (by omega), f2.st]
  clear f1 f2 a1 hown
  go_enter Ybad.func13, Ybad.ntmps13
  go_wp2_with fail
  go_ret
  exact ⟨v, rfl, took_none (unhide HW) (Only.refl _ _) (unhide HO)⟩

set_option maxHeartbeats 1000000 in
set_option maxRecDepth 100000 in
theorem take_due (W A l0 la Dv base : Nat) (S : Nat → Prop) (hS : S W) (v : Value) (n : Nat) (xs : List Value) (Du : Nat → Int) (lk now p : Int) (t : Nat) (ts : List Nat) (cnt : Int) (w : World)
    (hW : Whe W A l0 la Dv lk now p (some t) cnt false w) (hown : w.ownsRow base 26 1 v n xs) (hbase : base ≤ w.heap.size) (hn : n + (t :: ts).length ≤ 100000)
    (hC : Chain Du (t :: ts) w) (hnd : (t :: ts).Nodup) (hdue : ∀ x ∈ t :: ts, Du x ≤ now) :
    Calls Ybad.prog 13 #[.pointer (some ⟨W, 0, none⟩), v] w fun e w' => ∃ v', e = .returned v' ∧ Took W S base v n xs lk Dv (t :: ts) Du none 0 w v' w' := by
  obtain ⟨⟨F, f1, f2⟩, a1⟩ := hW
  have x19 : w.cell? ⟨W, 19, none⟩ = some (.bool false) := by rw [f1.cell (by omega), f2.st]
  have x11 : w.cell? ⟨W, 11, none⟩ = some (.pointer (some ⟨t, 0, none⟩)) := by rw [f1.cell (by omega), f2.hd]; rfl
  have x6 : w.cell? ⟨W, 6, none⟩ = some (.int .i64 now) := by rw [f1.cell (by omega), f2.now]
  have HT := hide (fun w hB => take_bare W 66 22 11 t F cnt w (by omega) hB f2.hd f2.cnt f2.no)
  have HE := hide (fun w hC hown hbase => expire_any W base now Du (t :: ts) v n xs w hC hnd hdue hown hbase hn)
  have hneW : ∀ x ∈ t :: ts, x ≠ W := by
    intro x hx e
    obtain ⟨nx, f, r, _⟩ := hC.mem x hx
    exact row_ne r f1 (by decide) e
  have hneo : ∀ g, v.ownBlock = some g → g ≠ W := fun g e h => owns_ne hown f1 (by decide) (h ▸ e)
  have HF := hide f1
  have HC := hide hC
  have HO := hide hown
  have HF2 := hide f2
  clear f1 a1 hC hown f2 hdue hnd hn
  go_enter Ybad.func13, Ybad.ntmps13
  go_wp2_with fail
  go_region_with (first
    | (go_at_call 18; refine (unhide HT _ (by exact (unhide HF).drew)).mono ?_; rintro e w1 ⟨rfl, row1, only1⟩
       have x6' : w1.cell? ⟨W, 6, none⟩ = some (.int .i64 now) := by rw [row1.cell (by omega)]; simp [upd, (unhide HF2).now]
       have HR1 := hide row1; have HO1 := hide only1; clear row1 only1)
    | (go_at_call 17; refine (unhide HE _ (by exact (unhide HC).of_block fun x hx => (unhide HO1).block x (hneW x hx)) (by exact owns_of_block (unhide HO) fun g e => (unhide HO1).block g (hneo g e)) (by have := (unhide HO1).size; simp only [World.size_drew] at this; omega)).mono ?_; rintro e w2 ⟨v', rfl, hown2, htim2, hG2, hv2⟩))
  all_goals
    go_wp2_with fail
    go_ret
    have o1 : Only (fun k => k = W) w w1 := (Only.refl (fun k => k = W) w).drew.trans (unhide HO1)
    have hs1 := o1.size
    refine ⟨_, rfl, hown2, htim2, ?_, ?_, ⟨_, hG2.row ?_ (unhide HR1), ?_, ?_, ?_, ?_⟩⟩
    · exact (o1.grew.mono (T := fun k => S k ∨ k ∈ t :: ts ∨ v.ownBlock = some k) (fun i _ e => .inl (e ▸ hS))).trans hG2 (fun i _ e => .inr e)
    · intro k hk; rcases hv2 k hk with h | h
      · exact .inl h
      · exact .inr (by omega)
    · rintro (e | e)
      · exact hneW _ e rfl
      · exact hneo _ e rfl
    · simp [upd, (unhide HF2).lk]
    · simp [upd, (unhide HF2).drv]
    · simp [upd, tp]
    · simp [upd]
set_option maxHeartbeats 1000000 in
set_option maxRecDepth 100000 in
theorem take_idle (W A l0 la Dv base : Nat) (S : Nat → Prop) (v : Value) (n : Nat) (xs : List Value) (Du : Nat → Int) (lk now p : Int) (cnt : Int) (w : World)
    (hW : Whe W A l0 la Dv lk now p none cnt false w) (hown : w.ownsRow base 26 1 v n xs)
    (hN : Calls Ybad.prog 19 #[.pointer (some ⟨W, 0, none⟩)] w fun e w' => e = .returned (.tuple #[.pointer none, .int .i64 0]) ∧ Only (fun _ => False) w w') :
    Calls Ybad.prog 13 #[.pointer (some ⟨W, 0, none⟩), v] w fun e w' => ∃ v', e = .returned v' ∧ Took W S base v n xs lk Dv [] Du none cnt w v' w' := by
  have HW := hide hW
  have HO := hide hown
  have HN := hide hN
  obtain ⟨⟨F, f1, f2⟩, a1⟩ := hW
  have x19 : w.cell? ⟨W, 19, none⟩ = some (.bool false) := by rw [f1.cell (by omega), f2.st]
  have x11 : w.cell? ⟨W, 11, none⟩ = some (.pointer none) := by rw [f1.cell (by omega), f2.hd]; rfl
  clear f1 f2 a1 hown hN
  go_enter Ybad.func13, Ybad.ntmps13
  go_wp2_with (first | (go_at_call 19; refine (unhide HN).mono ?_; rintro e w1 ⟨rfl, o1⟩))
  go_ret
  exact ⟨v, rfl, took_none (unhide HW) o1 (unhide HO)⟩

set_option maxHeartbeats 1000000 in
set_option maxRecDepth 100000 in
theorem take_late (W A l0 la Dv base : Nat) (S : Nat → Prop) (v : Value) (n : Nat) (xs : List Value) (Du : Nat → Int) (lk now p : Int) (cnt : Int) (a : Addr) (at_ : Int) (w : World) (hat : now < at_)
    (hW : Whe W A l0 la Dv lk now p none cnt false w) (hown : w.ownsRow base 26 1 v n xs)
    (hN : Calls Ybad.prog 19 #[.pointer (some ⟨W, 0, none⟩)] w fun e w' => e = .returned (.tuple #[.pointer (some a), .int .i64 at_]) ∧ Only (fun _ => False) w w') :
    Calls Ybad.prog 13 #[.pointer (some ⟨W, 0, none⟩), v] w fun e w' => ∃ v', e = .returned v' ∧ Took W S base v n xs lk Dv [] Du none cnt w v' w' := by
  have HW := hide hW
  have HO := hide hown
  have HN := hide hN
  obtain ⟨⟨F, f1, f2⟩, a1⟩ := hW
  have x19 : w.cell? ⟨W, 19, none⟩ = some (.bool false) := by rw [f1.cell (by omega), f2.st]
  have x11 : w.cell? ⟨W, 11, none⟩ = some (.pointer none) := by rw [f1.cell (by omega), f2.hd]; rfl
  have HF := hide f1
  have HF2 := hide f2
  have hlt : decide (at_ ≤ now) = false := by rw [decide_eq_false_iff_not]; omega
  clear f1 f2 a1 hown hN
  go_enter Ybad.func13, Ybad.ntmps13
  go_wp2_with (first | (go_at_call 19; refine (unhide HN).mono ?_; rintro e w1 ⟨rfl, o1⟩; have x6 : w1.cell? ⟨W, 6, none⟩ = some (.int .i64 now) := by rw [(o1.row (fun e => e) (unhide HF)).cell (by omega), (unhide HF2).now]))
  go_ret
  exact ⟨v, rfl, took_none (unhide HW) o1 (unhide HO)⟩

set_option maxHeartbeats 1000000 in
set_option maxRecDepth 100000 in
theorem take_go (W A l0 la Dv base lx ly l s u j m m' : Nat) (S : Nat → Prop) (hS : ∀ k, k = W ∨ k = A ∨ k = s ∨ k = l ∨ k = u → S k) (v : Value) (n : Nat) (xs : List Value) (Du : Nat → Int) (lk now p : Int) (cnt nl : Int) (at_ : Int) (t : Nat) (ts : List Nat) (hdF : Nat → Value) (cntF : Nat → Int) (w : World) (hat : at_ ≤ now) (hj : j < 64) (hn0 : 1 ≤ nl) (hn1 : nl ≤ 1000000)
    (hW : Whe W A l0 la Dv lk now p none cnt false w) (hown : w.ownsRow base 26 1 v n xs) (hbase : base ≤ w.heap.size) (hn : n + (t :: ts).length ≤ 100000)
    (hC : Chain Du (t :: ts) w) (hnd : (t :: ts).Nodup) (hdue : ∀ x ∈ t :: ts, Du x ≤ at_)
    (hs : w.rowIs s 61 256 (slotsF l hdF cntF)) (hl : w.rowIs l 76 4 (levF s u nl)) (hu : w.rowIs u 45 1 (oneF (.int .u64 m))) (hh : hdF j = tp (some t))
    (han : bits .andNot .u64 (m : Int) (IntKind.u64.wrap (2 ^ j)) = (m' : Int))
    (hN : Calls Ybad.prog 19 #[.pointer (some ⟨W, 0, none⟩)] w fun e w' => e = .returned (.tuple #[.pointer (some ⟨s, j * 4, none⟩), .int .i64 at_]) ∧ Only (fun _ => False) w w')
    (hR : ∀ w', Only (fun _ => False) w w' → Calls Ybad.prog 20 #[.pointer (some ⟨W, 0, none⟩), .int .i64 at_] w' fun e w'' => e = .returned (.tuple #[]) ∧ Whe W A lx ly Dv lk now at_ none cnt false w'' ∧ Only (fun k => k = W ∨ k = A) w' w'') :
    Calls Ybad.prog 13 #[.pointer (some ⟨W, 0, none⟩), v] w fun e w' => ∃ v', e = .returned v' ∧ Took W S base v n xs lk Dv (t :: ts) Du none cnt w v' w' := by
  obtain ⟨⟨F, f1, f2⟩, a1⟩ := hW
  have x19 : w.cell? ⟨W, 19, none⟩ = some (.bool false) := by rw [f1.cell (by omega), f2.st]
  have x11 : w.cell? ⟨W, 11, none⟩ = some (.pointer none) := by rw [f1.cell (by omega), f2.hd]; rfl
  have HN := hide hN
  have HRc := hide hR
  have hsW := row_ne hs f1 (by decide)
  have hsA := row_ne hs a1 (by decide)
  have hlW := row_ne hl f1 (by decide)
  have hlA := row_ne hl a1 (by decide)
  have huW := row_ne hu f1 (by decide)
  have huA := row_ne hu a1 (by decide)
  have hsl := row_ne hs hl (by decide)
  have hsu := row_ne hs hu (by decide)
  have hlu := row_ne hl hu (by decide)
  have HTk := hide (fun w hB hl hu => take_lev s 256 (j * 4) t l u j m m' (slotsF l hdF cntF) (cntF j) nl w (by omega) hj hn0 hn1 hsl hsu hlu han hB hl hu (by rw [slots0, hh]) (slots1 _ _ _ _) (slots2 _ _ _ _) (slots3 _ _ _ _))
  have HE := hide (fun w hC hown hbase => expire_any W base at_ Du (t :: ts) v n xs w hC hnd hdue hown hbase hn)
  have hno : ∀ x ∈ t :: ts, x ≠ W ∧ x ≠ A ∧ x ≠ s ∧ x ≠ l ∧ x ≠ u := by
    intro x hx
    obtain ⟨nx, f, r, _⟩ := hC.mem x hx
    exact ⟨row_ne r f1 (by decide), row_ne r a1 (by decide), row_ne r hs (by decide), row_ne r hl (by decide), row_ne r hu (by decide)⟩
  have hnb : ∀ g, v.ownBlock = some g → g ≠ W ∧ g ≠ A ∧ g ≠ s ∧ g ≠ l ∧ g ≠ u := fun g e =>
    ⟨fun h => owns_ne hown f1 (by decide) (h ▸ e), fun h => owns_ne hown a1 (by decide) (h ▸ e), fun h => owns_ne hown hs (by decide) (h ▸ e), fun h => owns_ne hown hl (by decide) (h ▸ e), fun h => owns_ne hown hu (by decide) (h ▸ e)⟩
  have HF := hide f1
  have HF2 := hide f2
  have HC := hide hC
  have HO := hide hown
  have HS := hide hs
  have HL := hide hl
  have HU := hide hu
  clear f1 f2 a1 hown hN hR hC hs hl hu hh han hdue hnd hn
  go_enter Ybad.func13, Ybad.ntmps13
  go_wp2_with (first
    | (go_at_call 19; refine (unhide HN).mono ?_; rintro e w1 ⟨rfl, o1⟩
       have x6 : w1.cell? ⟨W, 6, none⟩ = some (.int .i64 now) := by rw [(o1.row (fun e => e) (unhide HF)).cell (by omega), (unhide HF2).now]
       have HO1 := hide o1; clear o1)
    | (go_at_call 20; refine (unhide HRc _ (by exact unhide HO1)).mono ?_; rintro e w2 ⟨rfl, hW2, o2⟩
       have HW2 := hide hW2; have HO2 := hide (((unhide HO1).mono (T := fun k => k = W ∨ k = A) (fun _ e => e.elim)).trans o2); clear hW2 o2)
    | (go_at_call 18; refine (unhide HTk _ (by exact (unhide HO2).row (by rintro (e | e); exact hsW e; exact hsA e) (unhide HS)) (by exact (unhide HO2).row (by rintro (e | e); exact hlW e; exact hlA e) (unhide HL)) (by exact (unhide HO2).row (by rintro (e | e); exact huW e; exact huA e) (unhide HU))).mono ?_; rintro e w3 ⟨rfl, _, _, _, o3⟩
       have HO3 := hide (((unhide HO2).mono (T := fun k => k = W ∨ k = A ∨ k = s ∨ k = l ∨ k = u) (fun k e => by rcases e with e | e; exact .inl e; exact .inr (.inl e))).trans (o3.mono (fun k e => .inr (.inr e))))
       have HW3 := hide ((unhide HW2).of_only o3 (by rintro (e | e | e); exact hsW e.symm; exact hlW e.symm; exact huW e.symm) (by rintro (e | e | e); exact hsA e.symm; exact hlA e.symm; exact huA e.symm)); clear o3)
    | (go_at_call 17; refine (unhide HE _ (by exact (unhide HC).of_block fun x hx => (unhide HO3).block x (by have := hno x hx; omega)) (by exact owns_of_block (unhide HO) fun g e => (unhide HO3).block g (by have := hnb g e; omega)) (by have := (unhide HO3).size; omega)).mono ?_; rintro e w4 ⟨v', rfl, hown4, htim4, hG4, hv4⟩
       have HX4 := hide hown4; have HT4 := hide htim4; have HG4 := hide hG4; have HV4 := hide hv4; clear hown4 htim4 hG4 hv4)
    | (go_at_call 21; refine (drain_none W A _ (by
          obtain ⟨⟨F3, f1, f2⟩, a1⟩ := unhide HW3
          rw [((unhide HG4).row (by rintro (e | e); exact (hno _ e).1 rfl; exact (hnb _ e).1 rfl) f1).cell (by omega), f2.lev])).mono ?_; rintro e w5 ⟨rfl, rfl⟩))
  go_ret
  have hs3 := (unhide HO3).size
  refine ⟨_, rfl, unhide HX4, unhide HT4, ?_, ?_, ?_⟩
  · exact ((unhide HO3).grew.mono (T := fun k => S k ∨ k ∈ t :: ts ∨ v.ownBlock = some k) (fun i _ e => .inl (hS i e))).trans (unhide HG4) (fun i _ e => .inr e)
  · intro k hk; rcases unhide HV4 k hk with h | h
    · exact .inl h
    · exact .inr (by omega)
  · obtain ⟨⟨F3, f1, f2⟩, a1⟩ := unhide HW3
    exact ⟨F3, (unhide HG4).row (by rintro (e | e); exact (hno _ e).1 rfl; exact (hnb _ e).1 rfl) f1, f2.lk, f2.drv, f2.hd, f2.cnt⟩
end Go.Proofs.YbulkcyrqDoor
