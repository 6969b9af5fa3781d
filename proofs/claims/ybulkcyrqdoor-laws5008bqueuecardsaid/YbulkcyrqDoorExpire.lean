/-
  THE FRAME 'Grew'; a list of timers; Wheel.expire (17) where all are due.
-/
import Derived.Test.YbulkcyrqDoorNext
import Derived.Deep.AppendLies
import Derived.OneCell
namespace Go.Proofs.YbulkcyrqDoor
open Go.RowKit

/-- No old block turns but those of S; some may be laid. -/
structure Grew (S : Nat → Prop) (w w' : World) : Prop where
  os : w'.os = w.os
  tape : w'.tape = w.tape
  output : w'.output = w.output
  size : w.heap.size ≤ w'.heap.size
  block : ∀ k, k < w.heap.size → ¬ S k → w'.heap[k]? = w.heap[k]?

theorem Only.grew {S : Nat → Prop} {w w' : World} (h : Only S w w') : Grew S w w' := ⟨h.os, h.tape, h.output, Nat.le_of_eq h.size.symm, fun k _ => h.block k⟩
theorem Grew.refl (S : Nat → Prop) (w : World) : Grew S w w := ⟨rfl, rfl, rfl, Nat.le_refl _, fun _ _ _ => rfl⟩
theorem Grew.trans {S T : Nat → Prop} {x y z : World} (h : Grew S x y) (k : Grew T y z) (hT : ∀ i, i < x.heap.size → T i → S i) : Grew S x z :=
  ⟨k.os.trans h.os, k.tape.trans h.tape, k.output.trans h.output, Nat.le_trans h.size k.size, fun i hi hs => (k.block i (Nat.lt_of_lt_of_le hi h.size) (fun e => hs (hT i hi e))).trans (h.block i hi hs)⟩
theorem Grew.mono {S T : Nat → Prop} {x y : World} (h : Grew S x y) (hs : ∀ i, i < x.heap.size → S i → T i) : Grew T x y :=
  ⟨h.os, h.tape, h.output, h.size, fun i hi ht => h.block i hi (fun e => ht (hs i hi e))⟩
theorem Grew.drew {S : Nat → Prop} {x y : World} (h : Grew S x y) : Grew S x y.drew := ⟨h.os, h.tape, h.output, h.size, h.block⟩
theorem Grew.setCell {S : Nat → Prop} {x y : World} (h : Grew S x y) {a : Addr} (ha : a.block < x.heap.size → S a.block) (v : Value) : Grew S x (y.setCell a v) :=
  ⟨h.os, h.tape, h.output, by rw [show (y.setCell a v).heap.size = y.heap.size from by simp [World.setCell]]; exact h.size, fun i hi hs => by
    rw [Below.heap_setCell _ _ _ _ (fun e => hs (by subst e; exact ha hi))]; exact h.block i hi hs⟩
theorem Grew.alloc {S : Nat → Prop} {x y : World} (h : Grew S x y) (o : Obj) : Grew S x (y.alloc o) :=
  ⟨h.os, h.tape, h.output, by rw [World.size_alloc]; have := h.size; omega, fun i hi hs => by rw [← h.block i hi hs]; exact (World.grownBy_alloc y o none).block i (Nat.lt_of_lt_of_le hi h.size) (by simp)⟩
theorem Grew.grown {S : Nat → Prop} {x y z : World} {row : Option Nat} (h : Grew S x y) (g : y.grownBy z row) (hr : ∀ i, i < x.heap.size → row = some i → S i) : Grew S x z :=
  h.trans (T := fun i => row = some i) ⟨g.os, g.tape, g.output, g.size, fun i hi hs => g.block i hi (fun e => hs e.symm)⟩ hr
theorem Grew.row {S : Nat → Prop} {x y : World} (h : Grew S x y) {b : Nat} {t : TypeId} {n : Nat} {f : Nat → Value} (hb : ¬ S b) (r : x.rowIs b t n f) : y.rowIs b t n f := r.of_block (h.block b r.lt hb)
theorem Grew.below {S : Nat → Prop} {x y : World} (h : Grew S x y) {B : Nat} (hx : B ≤ x.heap.size) (hB : ∀ k, S k → B ≤ k) : Below B x y :=
  ⟨h.os, h.tape, h.output, h.size, fun k hk => h.block k (by omega) (fun e => by have := hB k e; omega)⟩
theorem owns_of_block {w w' : World} {base : Nat} {e : TypeId} {size : Nat} {v : Value} {n : Nat} {xs : List Value} (h : w.ownsRow base e size v n xs) (hb : ∀ g, v.ownBlock = some g → w'.heap[g]? = w.heap[g]?) : w'.ownsRow base e size v n xs := by
  obtain ⟨h1, h2 | ⟨g, cap, cur, rfl, h3, h4, h5⟩⟩ := h
  · exact ⟨h1, .inl h2⟩
  · exact ⟨h1, .inr ⟨g, cap, cur, rfl, h3, by rw [hb g rfl]; exact h4, h5⟩⟩
theorem Grew.owns {S : Nat → Prop} {x y : World} (h : Grew S x y) {base : Nat} {e : TypeId} {size : Nat} {v : Value} {n : Nat} {xs : List Value} (r : x.ownsRow base e size v n xs) (hb : ∀ g, v.ownBlock = some g → ¬ S g) : y.ownsRow base e size v n xs :=
  owns_of_block r fun g e => h.block g (r.lt g e).2 (hb g e)
theorem Grew.tim {S : Nat → Prop} {x y : World} (h : Grew S x y) {b : Nat} {d : Int} {nx : Option Nat} {tk : Int} (hb : ¬ S b) (r : Tim b d nx tk x) : Tim b d nx tk y := by
  obtain ⟨f, r1, r2⟩ := r
  exact ⟨f, h.row hb r1, r2⟩

/-- An owned row's block is none of another type's. -/
theorem owns_ne {w : World} {base : Nat} {e : TypeId} {size : Nat} {v : Value} {n : Nat} {xs : List Value} (h : w.ownsRow base e size v n xs) {b : Nat} {t : TypeId} {k : Nat} {f : Nat → Value} (r : w.rowIs b t k f) (hne : t ≠ e) : v.ownBlock ≠ some b := by
  intro he
  obtain ⟨h1, h2 | ⟨g, cap, cur, rfl, h3, h4, h5⟩⟩ := h
  · rw [h2.1] at he; cases he
  · cases he
    obtain ⟨c, hc, _⟩ := r
    rw [hc] at h4
    simp at h4
    exact hne h4.2

/-- The pointer to a timer. -/
def ptr (b : Nat) : Value := .pointer (some ⟨b, 0, none⟩)

/-- The timers of a list, each leading to the next; D: their due ticks. -/
def Chain (D : Nat → Int) : List Nat → World → Prop
  | [], _ => True
  | t :: r, w => Tim t (D t) r.head? 0 w ∧ Chain D r w
theorem Chain.of_block {D : Nat → Int} : ∀ {ts : List Nat} {w w' : World}, Chain D ts w → (∀ t ∈ ts, w'.heap[t]? = w.heap[t]?) → Chain D ts w'
  | [], _, _, _, _ => trivial
  | t :: _, _, _, h, e => ⟨h.1.of_block (e t (by simp)), Chain.of_block h.2 fun t ht => e t (by simp [ht])⟩
theorem Tim.lt {b : Nat} {d : Int} {nx : Option Nat} {tk : Int} {w : World} (h : Tim b d nx tk w) : b < w.heap.size := by
  obtain ⟨f, r, _⟩ := h
  exact r.lt
theorem Chain.mem {D : Nat → Int} : ∀ {ts : List Nat} {w : World}, Chain D ts w → ∀ t ∈ ts, ∃ nx, Tim t (D t) nx 0 w
  | t :: _, _, h, x, hx => by
    rcases List.mem_cons.1 hx with e | e
    · subst e; exact ⟨_, h.1⟩
    · exact Chain.mem h.2 x e

theorem alloc_new_at (X : World) (o : Obj) (H : Nat) (h : X.heap.size = H) : (X.alloc o).heap[H]? = some o := by
  subst h; exact heap_alloc_new X o
theorem size_set (X : World) (a : Addr) (v : Value) : (X.setCell a v).heap.size = X.heap.size := by simp [World.setCell]

def slen : Value → Nat
  | .slice _ n _ => n
  | _ => 0
theorem slen_own {w : World} {base : Nat} {e : TypeId} {size : Nat} {v : Value} {n : Nat} {xs : List Value} (h : w.ownsRow base e size v n xs) : slen v = n := by
  obtain ⟨_, ⟨rfl, rfl⟩ | ⟨g, cap, cur, rfl, _⟩⟩ := h <;> rfl

theorem info26 : (Ybad.prog.info? 26).map (fun i => (i.zero, i.size, i.bytes)) = some (some (.pointer none), 1, 8) := by kernel_rfl

set_option maxHeartbeats 1000000 in
set_option maxRecDepth 100000 in
theorem expire_any (W base : Nat) (at_ : Int) (D : Nat → Int) (ts : List Nat) (v : Value) (n : Nat) (xs : List Value) (w : World) (hC : Chain D ts w) (hnd : ts.Nodup) (hdue : ∀ t ∈ ts, D t ≤ at_)
    (hown : w.ownsRow base 26 1 v n xs) (hbase : base ≤ w.heap.size) (hn : n + ts.length ≤ 100000) :
    Calls Ybad.prog 17 #[.pointer (some ⟨W, 0, none⟩), tp ts.head?, .int .i64 at_, v] w fun e w' => ∃ v', e = .returned v' ∧ w'.ownsRow base 26 1 v' (n + ts.length) (xs ++ ts.map ptr) ∧
      (∀ t ∈ ts, Tim t (D t) none 1 w') ∧ Grew (fun k => k ∈ ts ∨ v.ownBlock = some k) w w' ∧ (∀ k, v'.ownBlock = some k → v.ownBlock = some k ∨ w.heap.size ≤ k) := by
  obtain ⟨i0, hi0, hz0, hz1, hz2⟩ := info_parts info26
  have HD := hide hdue
  have HN := hide hnd
  clear hdue hnd
  go_enter Ybad.func17, Ybad.ntmps17
  go_wp2_with fail
  go_loopw [3, 9] (fun b t wr => ∃ dn rs, ts = dn ++ rs ∧ t = tp rs.head? ∧ wr.ownsRow base 26 1 b (n + dn.length) (xs ++ dn.map ptr) ∧ (∀ t ∈ dn, Tim t (D t) none 1 wr) ∧ Chain D rs wr ∧ Grew (fun k => k ∈ ts ∨ v.ownBlock = some k) w wr ∧ (∀ k, b.ownBlock = some k → v.ownBlock = some k ∨ w.heap.size ≤ k)) (fun b _ _ => n + ts.length - slen b)
  case atStart => exact ⟨[], ts, rfl, rfl, by simpa using hown, by simp, hC, Grew.refl _ _, fun k e => .inl e⟩
  case round =>
    obtain ⟨dn, rs, hts, rfl, ho, hdn, hC', hG, hv⟩ := hrel
    have hsl := slen_own ho
    cases rs with
    | nil =>
      have e : dn = ts := by simpa using hts.symm
      subst e
      have HO := hide ho
      have HDN := hide hdn
      clear ho hdn hC' hts
      simp only [tp, List.head?_nil, Option.map_none]
      go_wp2_with fail
      go_ret
      exact ⟨_, rfl, unhide HO, unhide HDN, hG, hv⟩
    | cons t r =>
      obtain ⟨⟨f, r1, r2, r3, r4⟩, hCr⟩ := hC'
      have hlen : ts.length = dn.length + (r.length + 1) := by rw [hts]; simp
      have hmem : t ∈ ts := by rw [hts]; simp
      have hdt := unhide HD t hmem
      have hnd := unhide HN
      rw [hts] at hnd
      have htdn : ∀ x ∈ dn, x ≠ t := by
        intro x hx e
        subst e
        have := (List.nodup_append.1 hnd).2.2 x hx x (by simp)
        exact this rfl
      have htr : ∀ x ∈ r, x ≠ t := by
        intro x hx e
        subst e
        have := (List.nodup_cons.1 (List.nodup_append.1 hnd).2.1).1
        exact this hx
      have hot := owns_ne ho r1 (by decide)
      have c3 : wr.cell? ⟨t, 3, none⟩ = some (.int .i64 (D t)) := by rw [r1.cell (by omega), r2]
      have c4 := r1.cell (i := 4) (by omega)
      have c5 := r1.cell (i := 5) (by omega)
      have c6 : wr.cell? ⟨t, 6, none⟩ = some (tp r.head?) := by rw [r1.cell (by omega), r3]
      have c7 : wr.cell? ⟨t, 7, none⟩ = some (.int .u32 0) := by rw [r1.cell (by omega), r4]
      have g4 := r1.frozen 4
      have g5 := r1.frozen 5
      have g6 := r1.frozen 6
      have g7 := r1.frozen 7
      have HR := hide r1
      have HO := hide ho
      have HDN := hide hdn
      have HC := hide hCr
      have HTS := hide hts
      have hbs := hG.size
      clear ho hdn hCr hts hnd r1 hown hC HN HD
      generalize f 4 = v4 at c4
      generalize f 5 = v5 at c5
      generalize hnx : tp r.head? = nx at c6
      have HX := hide hnx
      clear hnx
      simp only [tp, List.head?_cons, Option.map_some]
      go_wp2_with (at_builtin; refine wpList_append_lies _ rfl (.tmp 40) (.tmp 42) 25 rfl base 26 i0 _ 1 8 Ybad.underlying25 hi0 hz0 hz1 hz2 rfl (by omega) u3 (n + dn.length) (xs ++ dn.map ptr) rfl (by exact World.ownsRow.alloc (ownsRow_setCell_other (ownsRow_setCell_other (ownsRow_setCell_other (ownsRow_setCell_other (unhide HO) hot _) hot _) hot _) hot _) _) ⟨wr.heap.size, 0, none⟩ 1 1 [ptr t] rfl rfl (World.news_of_block (cs := #[ptr t]) (by exact alloc_new_at _ _ _ (by simp only [size_set]))) (by intro u hu; simp at hu; subst hu; rfl) (by omega) (by unfold maxLen; omega) (by omega) (by simp only [World.size_alloc, size_set]; omega) (wr.heap.size + 1) (by simp only [World.size_alloc, size_set]) ?_; intro g cap w4 hown1 hgrow hat hlt1)
      have G1 : Grew (fun k => k = t) wr _ := (((((Grew.refl (fun k => k = t) wr).setCell (a := ⟨t, 4, none⟩) (fun _ => rfl) (.pointer none)).setCell (a := ⟨t, 5, none⟩) (fun _ => rfl) (.pointer none)).setCell (a := ⟨t, 6, none⟩) (fun _ => rfl) (.pointer none)).setCell (a := ⟨t, 7, none⟩) (fun _ => rfl) (.int .u32 1)).alloc (.cells #[.pointer (some ⟨t, 0, none⟩)] 26)
      have G2 : Grew (fun k => k = t ∨ u3.ownBlock = some k) wr w4 := (G1.mono (T := fun k => k = t ∨ u3.ownBlock = some k) (fun _ _ e => .inl e)).grown hgrow (fun i _ e => .inr e)
      have hrt : w4.rowIs t 31 9 _ := ((row_set (row_set (row_set (row_set (unhide HR) 4 (.pointer none)) 5 (.pointer none)) 6 (.pointer none)) 7 (.int .u32 1)).alloc (.cells #[.pointer (some ⟨t, 0, none⟩)] 26)).of_block (hgrow.block t (by have := (unhide HR).lt; simp only [World.size_alloc, size_set]; omega) (fun e => hot e.symm))
      have hother : ∀ x d nx tk, x ≠ t → Tim x d nx tk wr → Tim x d nx tk w4 := fun x d nx tk hx ht => G2.tim (by
        rintro (e | e)
        · exact hx e
        · obtain ⟨fx, rx, _⟩ := ht
          exact owns_ne (unhide HO) rx (by decide) e) ht
      go_roundw
      case rel =>
        refine ⟨dn ++ [t], r, by rw [unhide HTS]; simp, (unhide HX).symm, ?_, ?_, ?_, ?_, ?_⟩
        · rw [List.length_append, List.map_append, ← List.append_assoc]
          exact hown1
        · intro x hx
          rcases List.mem_append.1 hx with h | h
          · exact hother x _ _ _ (htdn x h) (unhide HDN x h)
          · have e : x = t := by simpa using h
            subst e
            exact ⟨_, hrt, by simp [upd, r2], by simp [upd, tp], by simp [upd]⟩
        · refine (unhide HC).of_block fun x hx => ?_
          obtain ⟨nx', htx⟩ := (unhide HC).mem x hx
          refine G2.block x htx.lt ?_
          rintro (e | e)
          · exact htr x hx e
          · obtain ⟨fx, rx, _⟩ := htx
            exact owns_ne (unhide HO) rx (by decide) e
        · refine hG.trans G2 fun i hi e => ?_
          rcases e with e | e
          · exact .inl (e ▸ hmem)
          · rcases hv i e with h | h
            · exact .inr h
            · omega
        · intro k hk
          have hk' : g = k := by simpa [Value.ownBlock] using hk
          subst hk'
          rcases hat with h | h
          · exact hv _ h
          · exact .inr (by omega)
      case measure =>
        rw [hsl]
        simp [slen]
        omega
end Go.Proofs.YbulkcyrqDoor
