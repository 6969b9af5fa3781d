/-
  What the loop of LawS5014AScript keeps; the state's block.
-/
import Derived.Test.YbulkcyuwDoorLawP
namespace Go.Proofs.YbulkcyuwDoor
open Go.RowKit
attribute [local go_sem] run_store_float

/-- What the loop keeps. -/
def Inv (n : Nat) (i : Nat) (T : Int) (L : List (Int × St × Nat)) (G : Nat → St) (w wr : World) : Prop :=
  i ≤ n ∧ 0 ≤ T ∧ T ≤ (i : Int) * 210000000 ∧ L.length ≤ i ∧ PosAny w.heap.size w.heap.size L wr ∧ wr.rowIs (w.heap.size + 1) 35 42 (stF G) ∧ (∀ a, a < 3 → (lookL (keyOf a) L).getD stZ = G a ∧ good (G a)) ∧ Grew (fun b => w.heap.size ≤ b) w wr
/-- What came in. -/
def Came (a0 : Option Addr) (n : Nat) (ad la lo sp ck : Nat → Nat) (od : Nat → Bool) (w : World) : Prop :=
  ∀ i, i < n → ∃ b o, a0 = some ⟨b, o, none⟩ ∧ b < w.heap.size ∧ w.cell? ⟨b, o + i * 6, none⟩ = some (.int .u8 (ad i)) ∧ w.cell? ⟨b, o + i * 6 + 1, none⟩ = some (.bool (od i)) ∧ w.cell? ⟨b, o + i * 6 + 2, none⟩ = some (.int .u32 (la i)) ∧
    w.cell? ⟨b, o + i * 6 + 3, none⟩ = some (.int .u32 (lo i)) ∧ w.cell? ⟨b, o + i * 6 + 4, none⟩ = some (.int .u8 (sp i)) ∧ w.cell? ⟨b, o + i * 6 + 5, none⟩ = some (.int .u8 (ck i)) ∧ ad i ≤ 255 ∧ la i ≤ 4294967295 ∧ lo i ≤ 4294967295 ∧ sp i ≤ 255 ∧ ck i ≤ 255

theorem tmod_nat (x m : Nat) : Int.tmod (x : Int) (m : Int) = ((x % m : Nat) : Int) := by
  rw [Int.tmod_eq_emod_of_nonneg (by omega)]; simp
theorem mask17 (x : Nat) (h : x ≤ 4294967295) : bits .and .u32 (x : Int) 131071 = ((x % 131072 : Nat) : Int) := by
  have hb := bits_mask .u32 32 (by decide) (by intro n h0 h1; rw [IntKind.wrap_u32]; omega) 17 (by decide) (x : Int) (by omega) (by omega)
  refine Eq.trans hb ?_
  omega

def z42 : Array Value := #[.int .i64 0, .int .i64 0, .bool false, .int .u32 0, .int .u32 0, .bool false, .int .u32 0, .int .u32 0, .int .u8 0, .int .u8 0, .float .f64 0, .float .f64 0, .int .i64 0, .int .u8 0, .int .i64 0, .int .i64 0, .bool false, .int .u32 0, .int .u32 0, .bool false, .int .u32 0, .int .u32 0, .int .u8 0, .int .u8 0, .float .f64 0, .float .f64 0, .int .i64 0, .int .u8 0, .int .i64 0, .int .i64 0, .bool false, .int .u32 0, .int .u32 0, .bool false, .int .u32 0, .int .u32 0, .int .u8 0, .int .u8 0, .float .f64 0, .float .f64 0, .int .i64 0, .int .u8 0]
theorem z42_eq : z42 = ((List.range 42).map (stF fun _ => stZ)).toArray := by kernel_rfl
theorem z42_at (i : Nat) (h : i < z42.size) : z42[i]? = some (stF (fun _ => stZ) i) := by
  have h' : i < 42 := h
  rw [z42_eq]; simp [h']

theorem PosAny.grew {B P : Nat} {L : List (Int × St × Nat)} {w w' : World} (h : PosAny B P L w) (g : Grew (fun _ => False) w w') : PosAny B P L w' := by
  rcases h with ⟨e, hl⟩ | ⟨M, m1, m2, hp, hm⟩
  · exact .inl ⟨(g.block P (heap_lt e) (fun h => h)).trans e, hl⟩
  · exact .inr ⟨M, m1, m2, hp.grew g (fun h => h) (fun h => h) (fun h => h) (fun h => h), hm⟩
theorem not_touched {B P k : Nat} {w : World} {c : Array Value} {t : TypeId} {f : Nat × Nat} (h : w.heap[k]? = some (.cells c t f)) (hk : k ≠ P) : ¬ (B ≤ k ∧ (k = P ∨ ∃ es ck, w.heap[k]? = some (.map es ck))) := by
  rintro ⟨_, e | ⟨es, ck, e⟩⟩
  · exact hk e
  · rw [h] at e; cases e
theorem row_block {w : World} {b : Nat} {t : TypeId} {n : Nat} {f : Nat → Value} (h : w.rowIs b t n f) : ∃ c fr, w.heap[b]? = some (.cells c t fr) := by
  obtain ⟨c, hc, _⟩ := h
  exact ⟨c, _, hc⟩
/-- One step of the law, behind its call of locate. -/
def After (odd : Bool) (LA LO : Nat) (w wr : World) (L' : List (Int × St × Nat)) (G : Nat → St) (x : World) : Prop :=
  PosAny w.heap.size w.heap.size L' x ∧ x.rowIs (w.heap.size + 1) 35 42 (stF G) ∧ x.cell? ⟨wr.heap.size, 1, none⟩ = some (.bool odd) ∧ Cpr (wr.heap.size + 1) odd LA LO x ∧ Tabs x ∧ Grew (fun b => w.heap.size ≤ b) w x

def upd (f : Nat → Value) (i : Nat) (v : Value) : Nat → Value := fun j => if j = i then v else f j
theorem row_set {w : World} {b : Nat} {t : TypeId} {n : Nat} {f : Nat → Value} (h : w.rowIs b t n f) (i : Nat) (v : Value) : (w.setCell ⟨b, i, none⟩ v).rowIs b t n (upd f i v) := h.set i v
theorem row_drew {w : World} {b : Nat} {t : TypeId} {n : Nat} {f : Nat → Value} (h : w.rowIs b t n f) : w.drew.rowIs b t n f := h
def setG (G : Nat → St) (A : Nat) (s : St) : Nat → St := fun k => if k = A then s else G k
theorem row_record {w : World} {S : Nat} {F : Nat → Value} {G : Nat → St} {A : Nat} {s : St} (h : w.rowIs S 35 42 F) (hin : ∀ j, j < 14 → F (A * 14 + j) = stc s j) (hout : ∀ i, i / 14 ≠ A → F i = stF G i) : w.rowIs S 35 42 (stF (setG G A s)) := by
  refine h.congr fun i hi => ?_
  by_cases ha : i / 14 = A
  · have e : i = A * 14 + i % 14 := by omega
    have hj : i % 14 < 14 := Nat.mod_lt _ (by decide)
    generalize i % 14 = j at *
    rw [e, hin j hj, stF_at _ _ _ hj]
    simp [setG]
  · rw [hout i ha]
    simp [stF, setG, ha]
theorem upd_out {f : Nat → Value} {i A j : Nat} {v : Value} (h : i / 14 ≠ A) (hj : j < 14) : upd f (A * 14 + j) v i = f i := by
  unfold upd; rw [if_neg (by intro e; subst e; apply h; omega)]
theorem upd_in {f : Nat → Value} {A j k : Nat} {v : Value} : upd f (A * 14 + j) v (A * 14 + k) = if k = j then v else f (A * 14 + k) := by
  unfold upd
  by_cases h : k = j
  · rw [if_pos h, if_pos (by omega)]
  · rw [if_neg h, if_neg (by omega)]
/-- Behind the stores of the frame. -/
def AfterB (odd : Bool) (LA LO : Nat) (w wr w1 : World) (L' : List (Int × St × Nat)) (G : Nat → St) (A : Nat) (s : St) (f : Fr) (x : World) : Prop :=
  PosAny w.heap.size w.heap.size L' x ∧ x.rowIs (w.heap.size + 1) 35 42 (stF (setG G A s)) ∧ Cpr (wr.heap.size + 1) odd LA LO x ∧ Cpr w1.heap.size f.o f.la f.lo x ∧ Tabs x ∧ Grew (fun b => w.heap.size ≤ b) w x
theorem frame_true {x : World} {S A : Nat} {G : Nat → St} {T c : Int} {LA LO : Nat} (h : x.rowIs S 35 42 (stF G)) :
    ((((((x.setCell ⟨S, A * 14 + 1, none⟩ (.int .i64 T)).setCell ⟨S, A * 14 + 5, none⟩ (.bool true)).setCell ⟨S, A * 14 + 6, none⟩ (.int .u32 LA)).setCell ⟨S, A * 14 + 7, none⟩ (.int .u32 LO)).setCell ⟨S, A * 14 + 9, none⟩ (.int .u8 c)).drew).rowIs S 35 42 (stF (setG G A (setF true (G A) ⟨T, true, LA, LO, c⟩))) := by
  refine row_record (row_drew (row_set (row_set (row_set (row_set (row_set h _ _) _ _) _ _) _ _) _ _)) ?_ ?_
  · intro j hj
    rw [upd_in, upd_in, upd_in, upd_in, upd_in, stF_at _ _ _ hj]
    match j, hj with
    | 0, _ => rfl
    | 1, _ => rfl
    | 2, _ => rfl
    | 3, _ => rfl
    | 4, _ => rfl
    | 5, _ => rfl
    | 6, _ => rfl
    | 7, _ => rfl
    | 8, _ => rfl
    | 9, _ => rfl
    | 10, _ => rfl
    | 11, _ => rfl
    | 12, _ => rfl
    | 13, _ => rfl
  · intro i hi
    rw [upd_out hi (by omega), upd_out hi (by omega), upd_out hi (by omega), upd_out hi (by omega), upd_out hi (by omega)]

theorem frame_false {x : World} {S A : Nat} {G : Nat → St} {T c : Int} {LA LO : Nat} (h : x.rowIs S 35 42 (stF G)) :
    ((((((x.setCell ⟨S, A * 14 + 0, none⟩ (.int .i64 T)).setCell ⟨S, A * 14 + 2, none⟩ (.bool false)).setCell ⟨S, A * 14 + 3, none⟩ (.int .u32 LA)).setCell ⟨S, A * 14 + 4, none⟩ (.int .u32 LO)).setCell ⟨S, A * 14 + 8, none⟩ (.int .u8 c)).drew).rowIs S 35 42 (stF (setG G A (setF false (G A) ⟨T, false, LA, LO, c⟩))) := by
  refine row_record (row_drew (row_set (row_set (row_set (row_set (row_set h _ _) _ _) _ _) _ _) _ _)) ?_ ?_
  · intro j hj
    rw [upd_in, upd_in, upd_in, upd_in, upd_in, stF_at _ _ _ hj]
    match j, hj with
    | 0, _ => rfl
    | 1, _ => rfl
    | 2, _ => rfl
    | 3, _ => rfl
    | 4, _ => rfl
    | 5, _ => rfl
    | 6, _ => rfl
    | 7, _ => rfl
    | 8, _ => rfl
    | 9, _ => rfl
    | 10, _ => rfl
    | 11, _ => rfl
    | 12, _ => rfl
    | 13, _ => rfl
  · intro i hi
    rw [upd_out hi (by omega), upd_out hi (by omega), upd_out hi (by omega), upd_out hi (by omega), upd_out hi (by omega)]

theorem PosAny.grewS {B P S : Nat} {L : List (Int × St × Nat)} {w w' : World} (h : PosAny B P L w) (g : Grew (fun b => b = S) w w') (hP : P ≠ S) (hc : ∃ c fr, w.heap[S]? = some (.cells c 35 fr)) : PosAny B P L w' := by
  obtain ⟨c, fr, hc⟩ := hc
  rcases h with ⟨e, hl⟩ | ⟨M, m1, m2, hp, hm⟩
  · exact .inl ⟨(g.block P (heap_lt e) hP).trans e, hl⟩
  · refine .inr ⟨M, m1, m2, hp.grew g hP ?_ ?_ ?_, hm⟩
    · rintro rfl; have := hp.2.1; rw [hc] at this; simp at this
    · rintro rfl; obtain ⟨_, ⟨k, q⟩, _⟩ := hp.2; unfold MapAt at q; rw [hc] at q; cases q
    · rintro rfl; obtain ⟨_, _, ⟨k, q⟩, _⟩ := hp.2; unfold MapAt at q; rw [hc] at q; cases q
theorem afterB_of {odd : Bool} {LA LO : Nat} {w wr w1 : World} {L' : List (Int × St × Nat)} {G : Nat → St} {A : Nat} {s : St} {f : Fr} {X : World} (h : After odd LA LO w wr L' G w1) (hwr : w.heap.size < wr.heap.size) (hw5 : 5 < w.heap.size)
    (hX : X.rowIs (w.heap.size + 1) 35 42 (stF (setG G A s))) (g : Grew (fun b => b = w.heap.size + 1) (w1.alloc (.cells #[.bool f.o, .int .u32 f.la, .int .u32 f.lo] 29)) X) : AfterB odd LA LO w wr w1 L' G A s f X := by
  obtain ⟨h1, h2, _, h4, h5, h6⟩ := h
  have ga : Grew (fun _ => False) w1 (w1.alloc (.cells #[.bool f.o, .int .u32 f.la, .int .u32 f.lo] 29)) := Grew.alloc (Grew.refl _ w1) _
  have hlt := h2.lt
  refine ⟨(h1.grew ga).grewS g (by omega) (row_block (ga.row (fun h => h) h2)), hX, (h4.grew ga (fun h => h)).grew g (by show ¬ (wr.heap.size + 1 = w.heap.size + 1); omega), (Cpr.new rfl).grew g (by show ¬ (w1.heap.size = w.heap.size + 1); omega), g.tabs (fun k hk => by have : k = w.heap.size + 1 := hk; omega) (ga.tabs (fun _ h => h.elim) h5), ?_⟩
  exact (h6.trans ga (fun _ _ h => h.elim)).trans g (fun j _ e => by have : j = w.heap.size + 1 := e; show w.heap.size ≤ j; omega)

theorem AfterB.grew {odd : Bool} {LA LO : Nat} {w wr w1 : World} {L' : List (Int × St × Nat)} {G : Nat → St} {A : Nat} {s : St} {f : Fr} {x y : World} (h : AfterB odd LA LO w wr w1 L' G A s f x) (g : Grew (fun _ => False) x y) : AfterB odd LA LO w wr w1 L' G A s f y := by
  obtain ⟨h1, h2, h3, h4, h5, h6⟩ := h
  exact ⟨h1.grew g, g.row (fun h => h) h2, h3.grew g (fun h => h), h4.grew g (fun h => h), g.tabs (fun _ h => h.elim) h5, h6.trans g (fun _ _ h => h.elim)⟩
theorem frame_fix {x : World} {S A : Nat} {G : Nat → St} {s : St} {g1 g2 : Nat} {T c : Int} (h : x.rowIs S 35 42 (stF (setG G A s))) :
    ((((x.setCell ⟨S, A * 14 + 10, none⟩ (.float .f64 g1)).setCell ⟨S, A * 14 + 11, none⟩ (.float .f64 g2)).setCell ⟨S, A * 14 + 12, none⟩ (.int .i64 T)).setCell ⟨S, A * 14 + 13, none⟩ (.int .u8 c)).rowIs S 35 42 (stF (setG G A { s with fx := ⟨g1, g2, T, c⟩ })) := by
  refine row_record (row_set (row_set (row_set (row_set h _ _) _ _) _ _) _ _) ?_ ?_
  · intro j hj
    rw [upd_in, upd_in, upd_in, upd_in, stF_at _ _ _ hj]
    simp only [setG, if_true]
    match j, hj with
    | 0, _ => rfl
    | 1, _ => rfl
    | 2, _ => rfl
    | 3, _ => rfl
    | 4, _ => rfl
    | 5, _ => rfl
    | 6, _ => rfl
    | 7, _ => rfl
    | 8, _ => rfl
    | 9, _ => rfl
    | 10, _ => rfl
    | 11, _ => rfl
    | 12, _ => rfl
    | 13, _ => rfl
  · intro i hi
    rw [upd_out hi (by omega), upd_out hi (by omega), upd_out hi (by omega), upd_out hi (by omega)]
    simp [stF, setG, hi]
theorem AfterB.fix {odd : Bool} {LA LO : Nat} {w wr w1 : World} {L' : List (Int × St × Nat)} {G : Nat → St} {A : Nat} {s : St} {f : Fr} {x : World} (h : AfterB odd LA LO w wr w1 L' G A s f x) (hwr : w.heap.size < wr.heap.size) (hw1 : w.heap.size + 1 < w1.heap.size) (hw5 : 5 < w.heap.size) (g1 g2 : Nat) (T c : Int) :
    AfterB odd LA LO w wr w1 L' G A { s with fx := ⟨g1, g2, T, c⟩ } f ((((x.setCell ⟨w.heap.size + 1, A * 14 + 10, none⟩ (.float .f64 g1)).setCell ⟨w.heap.size + 1, A * 14 + 11, none⟩ (.float .f64 g2)).setCell ⟨w.heap.size + 1, A * 14 + 12, none⟩ (.int .i64 T)).setCell ⟨w.heap.size + 1, A * 14 + 13, none⟩ (.int .u8 c)) := by
  obtain ⟨h1, h2, h3, h4, h5, h6⟩ := h
  have g : Grew (fun b => b = w.heap.size + 1) x ((((x.setCell ⟨w.heap.size + 1, A * 14 + 10, none⟩ (.float .f64 g1)).setCell ⟨w.heap.size + 1, A * 14 + 11, none⟩ (.float .f64 g2)).setCell ⟨w.heap.size + 1, A * 14 + 12, none⟩ (.int .i64 T)).setCell ⟨w.heap.size + 1, A * 14 + 13, none⟩ (.int .u8 c)) :=
    ((((Grew.refl (fun b => b = w.heap.size + 1) x).setCell (a := ⟨w.heap.size + 1, A * 14 + 10, none⟩) (fun _ => rfl) _).setCell (a := ⟨w.heap.size + 1, A * 14 + 11, none⟩) (fun _ => rfl) _).setCell (a := ⟨w.heap.size + 1, A * 14 + 12, none⟩) (fun _ => rfl) _).setCell (a := ⟨w.heap.size + 1, A * 14 + 13, none⟩) (fun _ => rfl) _
  exact ⟨h1.grewS g (by omega) (row_block h2), frame_fix h2, h3.grew g (by show ¬ (wr.heap.size + 1 = w.heap.size + 1); omega), h4.grew g (by show ¬ (w1.heap.size = w.heap.size + 1); omega), g.tabs (fun k hk => by have : k = w.heap.size + 1 := hk; omega) h5, h6.trans g (fun j _ e => by have : j = w.heap.size + 1 := e; show w.heap.size ≤ j; omega)⟩
theorem AfterB.cellA {odd : Bool} {LA LO : Nat} {w wr w1 : World} {L' : List (Int × St × Nat)} {G : Nat → St} {A : Nat} {s : St} {f : Fr} {x : World} (h : AfterB odd LA LO w wr w1 L' G A s f x) (hA : A < 3) (j : Nat) (hj : j < 14) : x.cell? ⟨w.heap.size + 1, A * 14 + j, none⟩ = some (stc s j) := by
  have := h.2.1.cell (i := A * 14 + j) (by omega)
  rw [stF_at _ _ _ hj] at this
  simpa [setG] using this
theorem inv_next {n i : Nat} {T : Int} {sq : Nat} {L L' : List (Int × St × Nat)} {G : Nat → St} {odd : Bool} {LA LO A : Nat} {w wr w1 x : World} {s2 : St} {f : Fr} (hin : i < n) (hA : A < 3) (hT0 : 0 ≤ T) (hT1 : T ≤ (i : Int) * 210000000) (hsq : sq < 8) (hL : L.length ≤ i)
    (hG : ∀ a, a < 3 → (lookL (keyOf a) L).getD stZ = G a ∧ good (G a)) (hg2 : good s2) (hlook : ∀ k', lookL k' L' = if k' = keyOf A then some s2 else lookL k' L) (hlen : L'.length ≤ L.length + 1) (h : AfterB odd LA LO w wr w1 L' G A s2 f x) : Inv n (i + 1) (T + (sq : Int) * 30000000) L' (setG G A s2) w x := by
  obtain ⟨h1, h2, _, _, _, h6⟩ := h
  refine ⟨by omega, by omega, by omega, by omega, h1, h2, ?_, h6⟩
  intro a ha
  by_cases e : a = A
  · subst e
    rw [hlook, if_pos rfl]; simp only [setG, if_true, Option.getD_some]; exact ⟨trivial, hg2⟩
  · rw [hlook, if_neg (fun h => e (key_inj h))]; simp only [setG, if_neg e]; exact hG a ha

theorem Tabs.drew {w : World} (h : Tabs w) : Tabs w.drew := h
theorem ord00 : (FloatKind.f64.format.order 0 0 != some .eq) = false := by kernel_rfl

end Go.Proofs.YbulkcyuwDoor
