/-
  THE STATE OF THE WHEEL while the law fills it: the timers listed (ls) and placed (pl), oldest first.
-/
import Derived.Test.YbulkcyrqDoorDispatch
import Derived.Test.YbulkcyrqDoorPlace
namespace Go.Proofs.YbulkcyrqDoor
open Go.RowKit

/-- The placed timers due at tick j, newest first. -/
def lis (pl : List Nat) (Du : Nat → Int) (j : Nat) : List Nat := (pl.filter fun t => decide (Du t = (j : Int))).reverse
theorem lis_mem {pl : List Nat} {Du : Nat → Int} {j t : Nat} (h : t ∈ lis pl Du j) : t ∈ pl ∧ Du t = j := by
  have := List.mem_filter.1 (List.mem_reverse.1 h)
  exact ⟨this.1, by simpa using this.2⟩
theorem lis_len (pl : List Nat) (Du : Nat → Int) (j : Nat) : (lis pl Du j).length ≤ pl.length := by
  unfold lis; rw [List.length_reverse]; exact List.length_filter_le _ _
theorem lis_snoc (pl : List Nat) (Du : Nat → Int) (t j : Nat) : lis (pl ++ [t]) Du j = if Du t = j then t :: lis pl Du j else lis pl Du j := by
  unfold lis
  rw [List.filter_append, List.reverse_append]
  by_cases h : Du t = (j : Int)
  · simp [h]
  · simp [h]
def setDu (Du : Nat → Int) (t : Nat) (d : Int) : Nat → Int := fun k => if k = t then d else Du k
theorem setDu_same (Du : Nat → Int) (t : Nat) (d : Int) : setDu Du t d t = d := if_pos rfl
theorem setDu_ne (Du : Nat → Int) (t : Nat) (d : Int) {k : Nat} (h : k ≠ t) : setDu Du t d k = Du k := if_neg h
theorem setDu_mem {Du : Nat → Int} {t : Nat} {d : Int} {l : List Nat} (h : t ∉ l) {x : Nat} (hx : x ∈ l) : setDu Du t d x = Du x := setDu_ne _ _ _ (fun e => h (by rw [← e]; exact hx))
theorem nodup_rev {l : List Nat} (h : l.Nodup) : l.reverse.Nodup := List.pairwise_reverse.2 (h.imp Ne.symm)
theorem lis_set {pl : List Nat} {Du : Nat → Int} {t : Nat} {d : Int} (h : t ∉ pl) (j : Nat) : lis pl (setDu Du t d) j = lis pl Du j := by
  unfold lis
  congr 1
  refine List.filter_congr fun x hx => ?_
  rw [setDu_mem h hx]

theorem Ring.congr {l s u cb cb' : Nat} {R R' : Nat → List Nat} {w : World} (h : Ring l s u R cb w) (e : ∀ j, j < 64 → R j = R' j) (hc : cb ≤ cb') : Ring l s u R' cb' w := by
  obtain ⟨⟨c, c1, c2, c3⟩, ⟨m, m1, m2, m3⟩, s1⟩ := h
  refine ⟨⟨c, c1, by omega, c3.trans ⟨fun h j hj => by rw [← e j hj]; exact h j hj, fun h j hj => by rw [e j hj]; exact h j hj⟩⟩, ⟨m, m1, m2, fun j hj => by rw [← e j hj]; exact m3 j hj⟩, s1.congr fun o ho => ?_⟩
  unfold slotsF
  have := e (o / 4) (by omega)
  simp only [this]
theorem Chain.congr {D D' : Nat → Int} : ∀ {ts : List Nat} {w : World}, Chain D ts w → (∀ t ∈ ts, D t = D' t) → Chain D' ts w
  | [], _, _, _ => trivial
  | t :: _, _, h, e => ⟨by rw [← e t (by simp)]; exact h.1, Chain.congr h.2 fun t ht => e t (by simp [ht])⟩

structure Sta (B W A D l0 s0 u0 l1 s1 u1 : Nat) (now : Int) (st : Bool) (qv : Value) (head : Int) (ls pl : List Nat) (Du : Nat → Int) (w : World) : Prop where
  blk : Blocks B W A D l0 s0 u0 l1 s1 u1
  whe : Whe W A l0 l1 D 0 now 0 ls.reverse.head? ls.length st w
  drv : Drv D qv head w
  r0 : Ring l0 s0 u0 (fun j => lis pl Du j) pl.length w
  r1 : Ring l1 s1 u1 (fun j => lis pl Du (64 + j)) pl.length w
  cl : Chain Du ls.reverse w
  ch : ∀ j, j < 128 → Chain Du (lis pl Du j) w
  nd : (ls ++ pl).Nodup
  dl : ∀ t ∈ ls, Du t = now
  dp : ∀ t ∈ pl, ∃ j : Nat, 1 ≤ j ∧ j < 128 ∧ Du t = j
  len : ls.length ≤ 8 ∧ pl.length ≤ 1024
  old : ∀ t ∈ ls ++ pl, B ≤ t

section
variable {B W A D l0 s0 u0 l1 s1 u1 : Nat} {now : Int} {st : Bool} {qv : Value} {head : Int} {ls pl : List Nat} {Du : Nat → Int} {w w' : World}

/-- No block turns but rows of pointers to timers. -/
def Keeps (w w' : World) : Prop := ∀ k t n f, w.rowIs k t n f → t ≠ 26 → w'.heap[k]? = w.heap[k]?
theorem Keeps.refl (w : World) : Keeps w w := fun _ _ _ _ _ _ => rfl
theorem Keeps.trans {x y z : World} (h : Keeps x y) (k : Keeps y z) : Keeps x z := fun i t n f r hne => (k i t n f (r.of_block (h i t n f r hne)) hne).trans (h i t n f r hne)
theorem Keeps.alloc {x y : World} (h : Keeps x y) (o : Obj) : Keeps x (y.alloc o) := h.trans fun k t n f r _ => (World.grownBy_alloc y o none).block k r.lt (by simp)
theorem Keeps.drew {x y : World} (h : Keeps x y) : Keeps x y.drew := h
theorem Keeps.set {x y : World} (h : Keeps x y) {a : Addr} {n : Nat} {f : Nat → Value} (r : y.rowIs a.block 26 n f) (v : Value) : Keeps x (y.setCell a v) :=
  h.trans fun k t m g r' hne => Below.heap_setCell _ _ _ _ (fun e => by subst e; exact row_ne r' r hne rfl)
theorem Keeps.row {x y : World} (h : Keeps x y) {k : Nat} {t : TypeId} {n : Nat} {f : Nat → Value} (r : x.rowIs k t n f) (hne : t ≠ 26) : y.rowIs k t n f := r.of_block (h k t n f r hne)
theorem Keeps.tim {x y : World} (h : Keeps x y) {b : Nat} {d : Int} {nx : Option Nat} {tk : Int} (r : Tim b d nx tk x) : Tim b d nx tk y := by
  obtain ⟨f, r1, r2⟩ := r
  exact ⟨f, h.row r1 (by decide), r2⟩
theorem Keeps.chain {x y : World} (h : Keeps x y) : ∀ {ts : List Nat}, Chain Du ts x → Chain Du ts y
  | [], _ => trivial
  | _ :: _, c => ⟨h.tim c.1, h.chain c.2⟩
theorem Keeps.ring {x y : World} (h : Keeps x y) {l s u cb : Nat} {R : Nat → List Nat} (r : Ring l s u R cb x) : Ring l s u R cb y := by
  obtain ⟨⟨c, c1, c2⟩, ⟨m, m1, m2⟩, s1⟩ := r
  exact ⟨⟨c, h.row c1 (by decide), c2⟩, ⟨m, h.row m1 (by decide), m2⟩, h.row s1 (by decide)⟩

theorem Sta.kept (h : Sta B W A D l0 s0 u0 l1 s1 u1 now st qv head ls pl Du w) (k : Keeps w w') : Sta B W A D l0 s0 u0 l1 s1 u1 now st qv head ls pl Du w' := by
  obtain ⟨⟨F, f1, f2⟩, a1⟩ := h.whe
  obtain ⟨G, g1, g2⟩ := h.drv
  exact ⟨h.blk, ⟨⟨F, k.row f1 (by decide), f2⟩, k.row a1 (by decide)⟩, ⟨G, k.row g1 (by decide), g2⟩, k.ring h.r0, k.ring h.r1, k.chain h.cl, fun j hj => k.chain (h.ch j hj), h.nd, h.dl, h.dp, h.len, h.old⟩

theorem Sta.tim_of (h : Sta B W A D l0 s0 u0 l1 s1 u1 now st qv head ls pl Du w) (t : Nat) (ht : t ∈ ls ++ pl) : ∃ nx, Tim t (Du t) nx 0 w := by
  rcases List.mem_append.1 ht with e | e
  · exact h.cl.mem t (List.mem_reverse.2 e)
  · obtain ⟨j, j1, j2, hd⟩ := h.dp t e
    exact (h.ch j j2).mem t (List.mem_reverse.2 (List.mem_filter.2 ⟨e, by simpa using hd⟩))
theorem Sta.lt (h : Sta B W A D l0 s0 u0 l1 s1 u1 now st qv head ls pl Du w) (t : Nat) (ht : t ∈ ls ++ pl) : t < w.heap.size := by
  obtain ⟨nx, r⟩ := h.tim_of t ht
  exact r.lt

/-- The due list takes a timer. -/
theorem Sta.due_push (h : Sta B W A D l0 s0 u0 l1 s1 u1 now st qv head ls pl Du w) (t : Nat) (ht : Tim t now none 0 w) (hnew : t ∉ ls ++ pl) (hB : B ≤ t) (hlen : ls.length < 8) :
    Calls Ybad.prog 5 #[.pointer (some ⟨W, 11, none⟩), .pointer (some ⟨t, 0, none⟩)] w fun e w' => e = .returned (.tuple #[]) ∧
      Sta B W A D l0 s0 u0 l1 s1 u1 now st qv head (ls ++ [t]) pl (setDu Du t now) w' ∧ Only (fun k => k = W ∨ k = t ∨ k ∈ ls) w w' := by
  obtain ⟨⟨F, f1, f2⟩, a1⟩ := h.whe
  obtain ⟨T, t1, t2, t3, t4⟩ := ht
  have hWt := row_ne f1 t1 (by decide)
  have hnls : t ∉ ls := fun e => hnew (by simp [e])
  have hnpl : t ∉ pl := fun e => hnew (by simp [e])
  -- what follows whatever the list held
  have fin : ∀ w' : World, Only (fun k => k = W ∨ k = t ∨ k ∈ ls) w w' → w'.rowIs W 66 22 (upd (upd F 11 (tp (some t))) 12 (.int .i64 ((ls.length : Int) + 1))) → Tim t now ls.reverse.head? 0 w' → Chain Du ls.reverse w' →
      Sta B W A D l0 s0 u0 l1 s1 u1 now st qv head (ls ++ [t]) pl (setDu Du t now) w' := by
    intro w' o rW rt rc
    have nin : ∀ b tt n f, w.rowIs b tt n f → tt ≠ 66 → tt ≠ 31 → ¬ (b = W ∨ b = t ∨ b ∈ ls) := by
      rintro b tt n f r h1 h2 (e | e | e)
      · subst e; exact row_ne r f1 h1 rfl
      · subst e; exact row_ne r t1 h2 rfl
      · obtain ⟨nx, fx, rx, _⟩ := h.tim_of b (by simp [e])
        exact row_ne r rx h2 rfl
    have kr : ∀ {l s u cb : Nat} {R : Nat → List Nat}, Ring l s u R cb w → Ring l s u R cb w' := fun {l s u cb R} r => by
      obtain ⟨⟨c, c1, c2⟩, ⟨m, m1, m2⟩, s1⟩ := r
      exact ⟨⟨c, o.row (nin _ _ _ _ c1 (by decide) (by decide)) c1, c2⟩, ⟨m, o.row (nin _ _ _ _ m1 (by decide) (by decide)) m1, m2⟩, o.row (nin _ _ _ _ s1 (by decide) (by decide)) s1⟩
    obtain ⟨G, g1, g2⟩ := h.drv
    refine ⟨h.blk, ⟨⟨_, rW, ?_⟩, o.row (nin _ _ _ _ a1 (by decide) (by decide)) a1⟩, ⟨G, o.row (nin _ _ _ _ g1 (by decide) (by decide)) g1, g2⟩, (kr h.r0).congr (fun j _ => (lis_set hnpl j).symm) (Nat.le_refl _), (kr h.r1).congr (fun j _ => (lis_set hnpl _).symm) (Nat.le_refl _), ?_, ?_, ?_, ?_, ?_, ?_, ?_⟩
    · obtain ⟨e1, e2, e3, e4, e5, e6, e7, e8, e9, e10, e11⟩ := f2
      constructor <;> simp [upd, *]
    · rw [List.reverse_append]
      refine ⟨?_, rc.congr fun x hx => (setDu_mem hnls (List.mem_reverse.1 hx)).symm⟩
      rw [setDu_same]; exact rt
    · intro j hj
      rw [lis_set hnpl]
      refine ((h.ch j hj).of_block fun x hx => o.block x ?_).congr fun x hx => (setDu_mem hnpl (lis_mem hx).1).symm
      have hx' := (lis_mem hx).1
      rintro (e | e | e)
      · obtain ⟨nx, fx, rx, _⟩ := h.tim_of x (by simp [hx'])
        exact row_ne rx f1 (by decide) e
      · exact hnpl (e ▸ hx')
      · exact (List.nodup_append.1 h.nd).2.2 x e x hx' rfl
    · have := h.nd
      rw [List.append_assoc]
      rw [List.nodup_append] at this ⊢
      refine ⟨this.1, List.nodup_cons.2 ⟨hnpl, this.2.1⟩, fun a ha b hb => ?_⟩
      rcases List.mem_cons.1 hb with e | e
      · subst e; exact fun e => hnls (e ▸ ha)
      · exact this.2.2 a ha b e
    · intro x hx
      rcases List.mem_append.1 hx with e | e
      · rw [setDu_mem hnls e]; exact h.dl x e
      · have : x = t := by simpa using e
        subst this; exact setDu_same _ _ _
    · intro x hx
      rw [setDu_mem hnpl hx]; exact h.dp x hx
    · exact ⟨by rw [List.length_append]; simp; omega, h.len.2⟩
    · intro x hx
      by_cases e : x = t
      · subst e; exact hB
      · refine h.old x ?_
        simp only [List.mem_append, List.mem_singleton] at hx ⊢
        rcases hx with (hx | hx) | hx
        · exact .inl hx
        · exact absurd hx e
        · exact .inr hx
  cases hh : ls.reverse.head? with
  | none =>
    have hnil : ls = [] := by simpa using hh
    refine (push_bare W 66 22 11 t F T (ls.length : Int) w (by omega) (by omega) (by omega) hWt f1 t1 (by rw [f2.hd, hh]) f2.cnt f2.no).mono ?_
    rintro e w' ⟨rfl, hp⟩
    have o := hp.only.mono (T := fun k => k = W ∨ k = t ∨ k ∈ ls) (fun k e => by rcases e with e | e <;> simp [e])
    refine ⟨rfl, fin w' o hp.slot ?_ ?_, o⟩
    · rw [hh]; exact ⟨_, hp.tim, by simp [upd, t2], by simp [upd], by simp [upd, t4]⟩
    · rw [hnil]; trivial
  | some x =>
    obtain ⟨r, hr⟩ : ∃ r, ls.reverse = x :: r := by
      cases hl : ls.reverse with
      | nil => rw [hl] at hh; simp at hh
      | cons a r => rw [hl] at hh; simp at hh; subst hh; exact ⟨r, rfl⟩
    have hx : x ∈ ls := List.mem_reverse.1 (by rw [hr]; simp)
    have hcl := h.cl
    rw [hr] at hcl
    obtain ⟨⟨X, x1, x2, x3, x4⟩, hcr⟩ := hcl
    have hWx := row_ne f1 x1 (by decide)
    have htx : t ≠ x := fun e => hnls (e ▸ hx)
    refine (push_on W 66 22 11 t x F T X (ls.length : Int) w (by omega) (by omega) (by omega) hWt hWx htx f1 t1 x1 (by rw [f2.hd, hh]) f2.cnt).mono ?_
    rintro e w' ⟨rfl, hp, hx'⟩
    have o := hp.only.mono (T := fun k => k = W ∨ k = t ∨ k ∈ ls) (fun k e => by rcases e with e | e | e <;> simp [e, hx])
    refine ⟨rfl, fin w' o hp.slot ?_ ?_, o⟩
    · rw [hh]; exact ⟨_, hp.tim, by simp [upd, t2], by simp [upd], by simp [upd, t4]⟩
    · rw [hr]
      refine ⟨⟨_, hx', by simp [upd, x2], by simp [upd, x3], by simp [upd, x4]⟩, hcr.of_block fun y hy => hp.only.block y ?_⟩
      have hnd : (x :: r).Nodup := by rw [← hr]; exact nodup_rev (List.nodup_append.1 h.nd).1
      have hy' : y ∈ ls := List.mem_reverse.1 (by rw [hr]; simp [hy])
      rintro (e | e | e)
      · obtain ⟨nx, fx, rx, _⟩ := h.tim_of y (by simp [hy'])
        exact row_ne rx f1 (by decide) e
      · exact hnls (e ▸ hy')
      · subst e; exact (List.nodup_cons.1 hnd).1 hy

theorem lis_nodup {pl : List Nat} (h : pl.Nodup) (Du : Nat → Int) (j : Nat) : (lis pl Du j).Nodup := nodup_rev (h.filter _)

/-- A ring takes a timer of tick d: what the lists read as behind it. -/
theorem chains_push (hch : ∀ j, j < 128 → Chain Du (lis pl Du j) w) (hpl : pl.Nodup) (t d l s u : Nat) (hnpl : t ∉ pl)
    (hl : ∃ f, w.rowIs l 76 4 f) (hs : ∃ f, w.rowIs s 61 256 f) (hu : ∃ f, w.rowIs u 45 1 f)
    (ht : Tim t d (lis pl Du d).head? 0 w') (hh : ∀ h d' n k, (lis pl Du d).head? = some h → Tim h d' n k w → Tim h d' n k w') (o : Only (Touch l s u t (lis pl Du d).head?) w w') :
    ∀ j, j < 128 → Chain (setDu Du t d) (lis (pl ++ [t]) (setDu Du t d) j) w' := by
  intro j hj
  obtain ⟨fl, hl⟩ := hl
  obtain ⟨fs, hs⟩ := hs
  obtain ⟨fu, hu⟩ := hu
  have keep : ∀ j, j < 128 → ∀ x ∈ lis pl Du j, (lis pl Du d).head? ≠ some x → w'.heap[x]? = w.heap[x]? := by
    intro j hj x hx hne
    obtain ⟨nx, f, r, _⟩ := (hch j hj).mem x hx
    refine o.block x ?_
    rintro (e | e | e | e | e)
    · exact row_ne r hs (by decide) e
    · exact hnpl (e ▸ (lis_mem hx).1)
    · exact row_ne r hl (by decide) e
    · exact row_ne r hu (by decide) e
    · exact hne e
  rw [lis_snoc, lis_set hnpl, setDu_same]
  by_cases e : (d : Int) = (j : Int)
  · have e' : d = j := by omega
    subst e'
    rw [if_pos rfl]
    refine ⟨by rw [setDu_same]; exact ht, ?_⟩
    have hc := hch d hj
    have hnd := lis_nodup hpl Du d
    refine Chain.congr (D := Du) ?_ fun x hx => (setDu_mem hnpl (lis_mem hx).1).symm
    have hk := keep d hj
    generalize lis pl Du d = L at *
    cases L with
    | nil => trivial
    | cons a r =>
      obtain ⟨c1, c2⟩ := hc
      refine ⟨hh a _ _ _ rfl c1, c2.of_block fun x hx => hk x (by simp [hx]) ?_⟩
      intro e
      have : a = x := by simpa using e
      subst this
      exact (List.nodup_cons.1 hnd).1 hx
  · rw [if_neg e]
    refine Chain.congr (D := Du) ((hch j hj).of_block fun x hx => keep j hj x hx ?_) fun x hx => (setDu_mem hnpl (lis_mem hx).1).symm
    intro eh
    have hx2 : x ∈ lis pl Du d := by
      generalize lis pl Du d = L at *
      cases L with
      | nil => simp at eh
      | cons a r => have : a = x := by simpa using eh
                    subst this; simp
    have h1 := (lis_mem hx).2
    have h2 := (lis_mem hx2).2
    omega

/-- The wheel takes a timer of tick d. -/
theorem Sta.place (h : Sta B W A D l0 s0 u0 l1 s1 u1 now st qv head ls pl Du w) (t d : Nat) (hd1 : 1 ≤ d) (hd2 : d < 128) (ht : Tim t d none 0 w) (hnew : t ∉ ls ++ pl) (hB : B ≤ t) (hlen : pl.length < 1024) :
    Calls Ybad.prog 6 #[.pointer (some ⟨W, 0, none⟩), .pointer (some ⟨t, 0, none⟩)] w fun e w' => e = .returned (.tuple #[]) ∧
      Sta B W A D l0 s0 u0 l1 s1 u1 now st qv head ls (pl ++ [t]) (setDu Du t d) w' ∧ Only (fun k => k = t ∨ k ∈ pl ∨ k = l0 ∨ k = s0 ∨ k = u0 ∨ k = l1 ∨ k = s1 ∨ k = u1) w w' := by
  have hnls : t ∉ ls := fun e => hnew (by simp [e])
  have hnpl : t ∉ pl := fun e => hnew (by simp [e])
  have htd : ∃ T, w.rowIs t 31 9 T ∧ T 3 = .int .i64 d := by obtain ⟨T, t1, t2, _⟩ := ht; exact ⟨T, t1, t2⟩
  have fin : ∀ w' : World, Only (fun k => k = t ∨ k ∈ pl ∨ k = l0 ∨ k = s0 ∨ k = u0 ∨ k = l1 ∨ k = s1 ∨ k = u1) w w' → Ring l0 s0 u0 (fun j => lis (pl ++ [t]) (setDu Du t d) j) (pl.length + 1) w' → Ring l1 s1 u1 (fun j => lis (pl ++ [t]) (setDu Du t d) (64 + j)) (pl.length + 1) w' →
      (∀ j, j < 128 → Chain (setDu Du t d) (lis (pl ++ [t]) (setDu Du t d) j) w') → Sta B W A D l0 s0 u0 l1 s1 u1 now st qv head ls (pl ++ [t]) (setDu Du t d) w' := by
    intro w' o r0' r1' hc
    have hnot : ∀ b tt n f, w.rowIs b tt n f → tt ≠ 31 → tt ≠ 76 → tt ≠ 61 → tt ≠ 45 → ¬ (b = t ∨ b ∈ pl ∨ b = l0 ∨ b = s0 ∨ b = u0 ∨ b = l1 ∨ b = s1 ∨ b = u1) := by
      obtain ⟨⟨c0, a0, _⟩, ⟨m0, b0, _⟩, e0⟩ := h.r0
      obtain ⟨⟨c1, a1, _⟩, ⟨m1, b1, _⟩, e1⟩ := h.r1
      rintro b tt n f r n1 n2 n3 n4 (e | e | e | e | e | e | e | e)
      · subst e; obtain ⟨T, t1, _⟩ := ht; exact row_ne r t1 n1 rfl
      · obtain ⟨nx, fx, rx, _⟩ := h.tim_of b (by simp [e]); exact row_ne r rx n1 rfl
      · subst e; exact row_ne r a0 n2 rfl
      · subst e; exact row_ne r e0 n3 rfl
      · subst e; exact row_ne r b0 n4 rfl
      · subst e; exact row_ne r a1 n2 rfl
      · subst e; exact row_ne r e1 n3 rfl
      · subst e; exact row_ne r b1 n4 rfl
    obtain ⟨⟨F, f1, f2⟩, a1⟩ := h.whe
    obtain ⟨G, g1, g2⟩ := h.drv
    refine ⟨h.blk, ⟨⟨F, o.row (hnot _ _ _ _ f1 (by decide) (by decide) (by decide) (by decide)) f1, f2⟩, o.row (hnot _ _ _ _ a1 (by decide) (by decide) (by decide) (by decide)) a1⟩, ⟨G, o.row (hnot _ _ _ _ g1 (by decide) (by decide) (by decide) (by decide)) g1, g2⟩, by rw [List.length_append]; exact r0', by rw [List.length_append]; exact r1', ?_, hc, ?_, ?_, ?_, ?_, ?_⟩
    · refine (h.cl.of_block fun x hx => o.block x ?_).congr fun x hx => (setDu_mem hnls (List.mem_reverse.1 hx)).symm
      have hx' := List.mem_reverse.1 hx
      obtain ⟨nx, f, r, _⟩ := h.cl.mem x hx
      obtain ⟨⟨c0, a0, _⟩, ⟨m0, b0, _⟩, e0⟩ := h.r0
      obtain ⟨⟨c1, a1, _⟩, ⟨m1, b1, _⟩, e1⟩ := h.r1
      rintro (e | e | e | e | e | e | e | e)
      · exact hnls (e ▸ hx')
      · exact (List.nodup_append.1 h.nd).2.2 x hx' x e rfl
      · exact row_ne r a0 (by decide) e
      · exact row_ne r e0 (by decide) e
      · exact row_ne r b0 (by decide) e
      · exact row_ne r a1 (by decide) e
      · exact row_ne r e1 (by decide) e
      · exact row_ne r b1 (by decide) e
    · rw [← List.append_assoc, List.nodup_append]
      refine ⟨h.nd, by simp, fun a ha b hb => ?_⟩
      have : b = t := by simpa using hb
      subst this
      exact fun e => hnew (e ▸ ha)
    · intro x hx; rw [setDu_mem hnls hx]; exact h.dl x hx
    · intro x hx
      rcases List.mem_append.1 hx with e | e
      · rw [setDu_mem hnpl e]; exact h.dp x e
      · have : x = t := by simpa using e
        subst this; exact ⟨d, hd1, hd2, setDu_same _ _ _⟩
    · exact ⟨h.len.1, by rw [List.length_append]; simp; omega⟩
    · intro x hx
      by_cases e : x = t
      · subst e; exact hB
      · refine h.old x ?_
        simp only [List.mem_append, List.mem_singleton] at hx ⊢
        rcases hx with hx | hx | hx
        · exact .inl hx
        · exact .inr hx
        · exact absurd hx e
  have hnd := (List.nodup_append.1 h.nd).2.1
  have hmem : ∀ j x, (lis pl Du j).head? = some x → x ∈ pl := fun j x e => by
    refine (lis_mem (Du := Du) (j := j) ?_).1
    generalize lis pl Du j = L at *
    cases L with
    | nil => simp at e
    | cons a r => have : a = x := by simpa using e
                  subst this; simp
  have hhead : ∀ w1, Only (fun _ => False) w w1 → ∀ j x, (lis pl Du j).head? = some x → x ≠ t ∧ ∃ f, w1.rowIs x 31 9 f := fun w1 o1 j x e => by
    have hx := hmem j x e
    obtain ⟨nx, f, r, _⟩ := h.tim_of x (by simp [hx])
    exact ⟨fun e' => hnpl (e' ▸ hx), f, o1.row (fun e => e) r⟩
  have hle := fun j => lis_len pl Du j
  by_cases hlo : d < 64
  · obtain ⟨⟨c0, a0, _⟩, ⟨m0, b0, _⟩, e0⟩ := h.r0
    refine place_lo W A l0 l1 D t s0 u0 0 now _ _ c0 st d w _ hd1 hlo h.whe a0 htd fun w1 o1 => ?_
    have hle' := hle d
    refine (ring_push l0 s0 u0 d t pl.length (fun j => lis pl Du j) w1 d none hlo (h.r0.of_only o1 (fun e => e) (fun e => e) (fun e => e)) (ht.of_only o1 (fun e => e)) (hhead w1 o1 d) (by omega) (by omega)).mono ?_
    rintro e w' ⟨rfl, rr, tt, hh, oo⟩
    have o2 : Only (Touch l0 s0 u0 t (lis pl Du d).head?) w w' := (o1.mono (fun _ e => e.elim)).trans oo
    have o3 : Only (fun k => k = t ∨ k ∈ pl ∨ k = l0 ∨ k = s0 ∨ k = u0 ∨ k = l1 ∨ k = s1 ∨ k = u1) w w' := o2.mono fun k e => by
      rcases e with e | e | e | e | e
      · simp [e]
      · simp [e]
      · simp [e]
      · simp [e]
      · simp [hmem d k e]
    refine ⟨rfl, fin w' o3 (rr.congr (fun j _ => ?_) (Nat.le_refl _)) ?_ ?_, o3⟩
    · rw [lis_snoc, lis_set hnpl, setDu_same]
      unfold put
      by_cases e : j = d
      · subst e; simp
      · rw [if_neg e, if_neg (by omega)]
    · obtain ⟨⟨c1, a1, _⟩, ⟨m1, b1, _⟩, e1⟩ := h.r1
      refine ((h.r1.of_only o2 ?_ ?_ ?_)).congr (fun j _ => ?_) (by omega)
      · rintro (e | e | e | e | e)
        · exact row_ne a1 e0 (by decide) e
        · obtain ⟨T, t1, _⟩ := htd; exact row_ne a1 t1 (by decide) e
        · exact h.blk.l e.symm
        · exact row_ne a1 b0 (by decide) e
        · obtain ⟨nx, f, r, _⟩ := h.tim_of l1 (by simp [hmem d _ e]); exact row_ne a1 r (by decide) rfl
      · rintro (e | e | e | e | e)
        · exact h.blk.s e.symm
        · obtain ⟨T, t1, _⟩ := htd; exact row_ne e1 t1 (by decide) e
        · exact row_ne e1 a0 (by decide) e
        · exact row_ne e1 b0 (by decide) e
        · obtain ⟨nx, f, r, _⟩ := h.tim_of s1 (by simp [hmem d _ e]); exact row_ne e1 r (by decide) rfl
      · rintro (e | e | e | e | e)
        · exact row_ne b1 e0 (by decide) e
        · obtain ⟨T, t1, _⟩ := htd; exact row_ne b1 t1 (by decide) e
        · exact row_ne b1 a0 (by decide) e
        · exact h.blk.u e.symm
        · obtain ⟨nx, f, r, _⟩ := h.tim_of u1 (by simp [hmem d _ e]); exact row_ne b1 r (by decide) rfl
      · rw [lis_snoc, lis_set hnpl, setDu_same, if_neg (by omega)]
    · exact chains_push h.ch hnd t d l0 s0 u0 hnpl ⟨_, a0⟩ ⟨_, e0⟩ ⟨_, b0⟩ tt (fun h' d' n k eh r => hh h' d' n k eh (r.of_only o1 (fun e => e))) o2
  · obtain ⟨j, hj⟩ : ∃ j, d = 64 + j := ⟨d - 64, by omega⟩
    obtain ⟨⟨c0, a0, _⟩, ⟨m0, b0, _⟩, e0⟩ := h.r1
    refine place_hi W A l0 l1 D t s1 u1 0 now _ _ c0 st d w _ j hj (by omega) h.whe a0 htd fun w1 o1 => ?_
    have hle' := hle (64 + j)
    refine (ring_push l1 s1 u1 j t pl.length (fun j => lis pl Du (64 + j)) w1 d none (by omega) (h.r1.of_only o1 (fun e => e) (fun e => e) (fun e => e)) (ht.of_only o1 (fun e => e)) (hhead w1 o1 (64 + j)) (by omega) (by omega)).mono ?_
    rw [← hj]
    rintro e w' ⟨rfl, rr, tt, hh, oo⟩
    have o2 : Only (Touch l1 s1 u1 t (lis pl Du d).head?) w w' := (o1.mono (fun _ e => e.elim)).trans oo
    have o3 : Only (fun k => k = t ∨ k ∈ pl ∨ k = l0 ∨ k = s0 ∨ k = u0 ∨ k = l1 ∨ k = s1 ∨ k = u1) w w' := o2.mono fun k e => by
      rcases e with e | e | e | e | e
      · simp [e]
      · simp [e]
      · simp [e]
      · simp [e]
      · simp [hmem d k e]
    refine ⟨rfl, fin w' o3 ?_ (rr.congr (fun i _ => ?_) (Nat.le_refl _)) ?_, o3⟩
    · obtain ⟨⟨c1, a1, _⟩, ⟨m1, b1, _⟩, e1⟩ := h.r0
      refine ((h.r0.of_only o2 ?_ ?_ ?_)).congr (fun i _ => ?_) (by omega)
      · rintro (e | e | e | e | e)
        · exact row_ne a1 e0 (by decide) e
        · obtain ⟨T, t1, _⟩ := htd; exact row_ne a1 t1 (by decide) e
        · exact h.blk.l e
        · exact row_ne a1 b0 (by decide) e
        · obtain ⟨nx, f, r, _⟩ := h.tim_of l0 (by simp [hmem d _ e]); exact row_ne a1 r (by decide) rfl
      · rintro (e | e | e | e | e)
        · exact h.blk.s e
        · obtain ⟨T, t1, _⟩ := htd; exact row_ne e1 t1 (by decide) e
        · exact row_ne e1 a0 (by decide) e
        · exact row_ne e1 b0 (by decide) e
        · obtain ⟨nx, f, r, _⟩ := h.tim_of s0 (by simp [hmem d _ e]); exact row_ne e1 r (by decide) rfl
      · rintro (e | e | e | e | e)
        · exact row_ne b1 e0 (by decide) e
        · obtain ⟨T, t1, _⟩ := htd; exact row_ne b1 t1 (by decide) e
        · exact row_ne b1 a0 (by decide) e
        · exact h.blk.u e
        · obtain ⟨nx, f, r, _⟩ := h.tim_of u0 (by simp [hmem d _ e]); exact row_ne b1 r (by decide) rfl
      · rw [lis_snoc, lis_set hnpl, setDu_same, if_neg (by omega)]
    · rw [lis_snoc, lis_set hnpl, setDu_same]
      unfold put
      by_cases e : i = j
      · subst e; rw [if_pos rfl, if_pos (by omega)]
      · rw [if_neg e, if_neg (by omega)]
    · exact chains_push h.ch hnd t d l1 s1 u1 hnpl ⟨_, a0⟩ ⟨_, e0⟩ ⟨_, b0⟩ tt (fun h' d' n k eh r => hh h' d' n k eh (r.of_only o1 (fun e => e))) o2
end
end Go.Proofs.YbulkcyrqDoor
