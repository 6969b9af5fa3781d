/-
  WHAT LIES IN MEMORY BEHIND dispatch, TryLock AND Unlock, as the law's last loops read it.
-/
import Derived.Test.YbulkcyrqDoorRowsF
namespace Go.Proofs.YbulkcyrqDoor
open Go.RowKit

structure Fin (W D : Nat) (hd : Option Nat) (cnt head : Int) (ol ls pl L : List Nat) (qa : Option Addr) (qc : Nat) (wa : Option Addr) (bo bl bp : Nat) (w : World) : Prop where
  c20 : w.cell? ⟨W, 20, none⟩ = some (.pointer (some ⟨D, 0, none⟩))
  c11 : w.cell? ⟨W, 11, none⟩ = some (tp hd)
  c12 : w.cell? ⟨W, 12, none⟩ = some (.int .i64 cnt)
  c7 : w.cell? ⟨D, 7, none⟩ = some (.slice qa (ol.length + L.length) qc)
  c8 : w.cell? ⟨D, 8, none⟩ = some (.int .i64 head)
  q : ∀ i t, (ol ++ L)[i]? = some t → ∃ g, qa = some ⟨g, 0, none⟩ ∧ w.cell? ⟨g, i, none⟩ = some (ptr t)
  wn : ∀ i t, L[i]? = some t → ∃ g, wa = some ⟨g, 0, none⟩ ∧ w.cell? ⟨g, i, none⟩ = some (ptr t)
  o : ∀ i t, ol[i]? = some t → w.cell? ⟨bo, i, none⟩ = some (ptr t)
  l : ∀ i t, ls[i]? = some t → w.cell? ⟨bl, i, none⟩ = some (ptr t)
  p : ∀ i t, pl[i]? = some t → w.cell? ⟨bp, i, none⟩ = some (ptr t)
  tk : ∀ t ∈ ls ++ pl, w.cell? ⟨t, 7, none⟩ = some (.int .u32 ((if t ∈ L then 1 else 0 : Nat) : Int))
  sub : ∀ t ∈ L, t ∈ ls ++ pl

theorem Fin.drew {W D : Nat} {hd : Option Nat} {cnt head : Int} {ol ls pl L : List Nat} {qa : Option Addr} {qc : Nat} {wa : Option Addr} {bo bl bp : Nat} {w : World} (h : Fin W D hd cnt head ol ls pl L qa qc wa bo bl bp w) :
    Fin W D hd cnt head ol ls pl L qa qc wa bo bl bp w.drew := ⟨h.c20, h.c11, h.c12, h.c7, h.c8, h.q, h.wn, h.o, h.l, h.p, h.tk, h.sub⟩

theorem reads_of {w : World} {base n : Nat} {v : Value} {xs : List Nat} (h : w.ownsRow base 26 1 v n (xs.map ptr)) (hn : n = xs.length) :
    ∃ a c, v = .slice a xs.length c ∧ ∀ i t, xs[i]? = some t → ∃ g, a = some ⟨g, 0, none⟩ ∧ w.cell? ⟨g, i, none⟩ = some (ptr t) := by
  subst hn
  have h' := h
  obtain ⟨h1, ⟨rfl, h2⟩ | ⟨g, cap, cur, rfl, h3, h4, h5⟩⟩ := h
  · refine ⟨none, 0, by rw [h2], fun i t e => ?_⟩
    have : xs = [] := List.length_eq_zero_iff.1 h2
    subst this
    simp at e
  · refine ⟨_, _, rfl, fun i t e => ⟨g, rfl, ?_⟩⟩
    have := h'.cells (g := g) rfl i (ptr t) (by simp [e])
    have ea : (⟨g, 0, none⟩ : Addr).add i = ⟨g, i, none⟩ := by unfold Addr.add; split <;> simp_all
    rw [ea] at this
    exact this
theorem row_reads {w : World} {b : Nat} {l : List Nat} (h : w.rowIs b 26 l.length (rowF l)) (i t : Nat) (e : l[i]? = some t) : w.cell? ⟨b, i, none⟩ = some (ptr t) := by
  have hi : i < l.length := (List.getElem?_eq_some_iff.1 e).1
  rw [h.cell hi]
  simp [rowF, e, tp, ptr]

theorem want_sub {st : Bool} {now : Int} {ls pl : List Nat} {Du : Nat → Int} {M t : Nat} (ht : t ∈ wantL st now ls pl Du M) : t ∈ ls ++ pl := by
  unfold wantL at ht
  split at ht
  · cases ht
  · split at ht
    · simp [List.mem_reverse.1 ht]
    · split at ht
      · simp [(lis_mem ht).1]
      · cases ht
theorem want_nodup {st : Bool} {now : Int} {ls pl : List Nat} {Du : Nat → Int} {M : Nat} (h : (ls ++ pl).Nodup) : (wantL st now ls pl Du M).Nodup := by
  have h' := List.nodup_append.1 h
  unfold wantL
  split
  · exact List.nodup_nil
  · split
    · exact nodup_rev h'.1
    · split
      · exact lis_nodup h'.2.1 Du M
      · exact List.nodup_nil
theorem want_len {st : Bool} {now : Int} {ls pl : List Nat} {Du : Nat → Int} {M : Nat} : (wantL st now ls pl Du M).length ≤ ls.length + pl.length := by
  unfold wantL
  split
  · simp
  · split
    · simp
    · split
      · have := lis_len pl Du M; omega
      · simp

/-- How many of xs are in L. -/
def tot (L xs : List Nat) : Nat := (xs.filter fun t => decide (t ∈ L)).length
theorem tot_le (L xs : List Nat) : tot L xs ≤ xs.length := List.length_filter_le _ _
theorem tot_nil (L : List Nat) : tot L [] = 0 := rfl
theorem tot_take {L xs : List Nat} {i t : Nat} (h : xs[i]? = some t) : tot L (xs.take (i + 1)) = tot L (xs.take i) + (if t ∈ L then 1 else 0) := by
  unfold tot
  rw [List.take_add_one, h, List.filter_append, List.length_append]
  by_cases e : t ∈ L
  · simp [e]
  · simp [e]
theorem tot_all {L xs ys : List Nat} (hL : L.Nodup) (hx : (xs ++ ys).Nodup) (hs : ∀ t ∈ L, t ∈ xs ++ ys) : tot L xs + tot L ys = L.length := by
  unfold tot
  rw [← List.length_append, ← List.filter_append]
  refine List.Perm.length_eq ((List.perm_ext_iff_of_nodup (hx.filter _) hL).2 fun t => ?_)
  rw [List.mem_filter, decide_eq_true_eq]
  exact ⟨fun e => e.2, fun e => ⟨hs t e, e⟩⟩

section
variable {B W A D l0 s0 u0 l1 s1 u1 : Nat} {now : Int} {st : Bool} {qv : Value} {head : Int} {ls pl : List Nat} {Du : Nat → Int} {w7 w8 w9 : World}
theorem Sta.fin (h : Sta B W A D l0 s0 u0 l1 s1 u1 now st qv head ls pl Du w7) {base base2 M bo bl bp : Nat} {ol : List Nat} {v' : Value} {wa : Option Addr} {wm wc : Nat}
    (hD : Disp W (Wset W A l0 s0 u0 l1 s1 u1) base qv ol.length (ol.map ptr) D head (wantL st now ls pl Du M) Du (hdL st ls) (cntL st ls) w7 v' w8)
    (hQ : w7.ownsRow base 26 1 qv ol.length (ol.map ptr)) (hbase : B ≤ base) (hB7 : B ≤ w7.heap.size)
    (hW : w7.ownsRow base2 26 1 (.slice wa wm wc) (wantL st now ls pl Du M).length ((wantL st now ls pl Du M).map ptr)) (hq2 : ∀ g, qv.ownBlock = some g → g < base2)
    (hO : w7.rowIs bo 26 ol.length (rowF ol)) (hqo : qv.ownBlock ≠ some bo) (hL : w7.rowIs bl 26 ls.length (rowF ls)) (hql : qv.ownBlock ≠ some bl) (hP : w7.rowIs bp 26 pl.length (rowF pl)) (hqp : qv.ownBlock ≠ some bp)
    (e9 : w9 = (w8.setCell ⟨W, 4, none⟩ (.int .i32 1)).setCell ⟨W, 4, none⟩ (.int .i32 0)) :
    wm = (wantL st now ls pl Du M).length ∧ (∃ qa qc, v' = .slice qa (ol.length + (wantL st now ls pl Du M).length) qc ∧ Fin W D (hdL st ls) (cntL st ls) head ol ls pl (wantL st now ls pl Du M) qa qc wa bo bl bp w9) ∧ Below B w7 w9 := by
  have hsub : ∀ t ∈ wantL st now ls pl Du M, t ∈ ls ++ pl := fun t ht => want_sub ht
  generalize wantL st now ls pl Du M = L at *
  obtain ⟨G, g1, g2, g3⟩ := hD.drv
  obtain ⟨F, f1, f2, f3, f4, f5⟩ := hD.row
  -- which blocks the call turns
  have hS : ∀ k, (Wset W A l0 s0 u0 l1 s1 u1 k ∨ k = D ∨ k ∈ L) → ∃ tt n f, w7.rowIs k tt n f ∧ tt ≠ 26 := by
    obtain ⟨⟨F, f1, _⟩, aa⟩ := h.whe
    obtain ⟨G, g1, _⟩ := h.drv
    obtain ⟨⟨c0, a0, _⟩, ⟨m0, b0, _⟩, e0⟩ := h.r0
    obtain ⟨⟨c1, a1, _⟩, ⟨m1, b1, _⟩, e1⟩ := h.r1
    rintro k ((e | e | e | e | e | e | e | e) | e | e)
    · exact ⟨_, _, _, by rw [e]; exact f1, by decide⟩
    · exact ⟨_, _, _, by rw [e]; exact aa, by decide⟩
    · exact ⟨_, _, _, by rw [e]; exact a0, by decide⟩
    · exact ⟨_, _, _, by rw [e]; exact e0, by decide⟩
    · exact ⟨_, _, _, by rw [e]; exact b0, by decide⟩
    · exact ⟨_, _, _, by rw [e]; exact a1, by decide⟩
    · exact ⟨_, _, _, by rw [e]; exact e1, by decide⟩
    · exact ⟨_, _, _, by rw [e]; exact b1, by decide⟩
    · exact ⟨_, _, _, by rw [e]; exact g1, by decide⟩
    · obtain ⟨nx, f, r, _⟩ := h.tim_of k (hsub k e)
      exact ⟨_, _, _, r, by decide⟩
  have n26 : ∀ {b n f}, w7.rowIs b 26 n f → qv.ownBlock ≠ some b → ¬ (Wset W A l0 s0 u0 l1 s1 u1 b ∨ b = D ∨ b ∈ L ∨ qv.ownBlock = some b) := by
    rintro b n f r hq (e | e | e | e)
    · obtain ⟨tt, m, g, r', hne⟩ := hS b (.inl e); exact row_ne r' r hne rfl
    · obtain ⟨tt, m, g, r', hne⟩ := hS b (.inr (.inl e)); exact row_ne r' r hne rfl
    · obtain ⟨tt, m, g, r', hne⟩ := hS b (.inr (.inr e)); exact row_ne r' r hne rfl
    · exact hq e
  have hO8 := hD.grew.row (n26 hO hqo) hO
  have hL8 := hD.grew.row (n26 hL hql) hL
  have hP8 := hD.grew.row (n26 hP hqp) hP
  have hW8 : w8.ownsRow base2 26 1 (.slice wa wm wc) L.length (L.map ptr) := hD.grew.owns hW fun g e => by
    rintro (e' | e' | e' | e')
    · obtain ⟨tt, m, f, r', hne⟩ := hS g (.inl e'); exact owns_ne hW r' hne e
    · obtain ⟨tt, m, f, r', hne⟩ := hS g (.inr (.inl e')); exact owns_ne hW r' hne e
    · obtain ⟨tt, m, f, r', hne⟩ := hS g (.inr (.inr e')); exact owns_ne hW r' hne e
    · have := hq2 g e'; have := (hW.lt g e).1; omega
  have hW0 := hD.own
  rw [← List.map_append] at hW0
  -- two stores into the lock's cell
  have hWO := owns_ne hW0 f1 (by decide)
  have hWw := owns_ne hW8 f1 (by decide)
  have set2 : ∀ {b tt n f}, w8.rowIs b tt n f → b ≠ W → w9.rowIs b tt n f := fun r hne => by
    rw [e9]
    exact (r.setOther (a := ⟨W, 4, none⟩) hne _).setOther (a := ⟨W, 4, none⟩) hne _
  have own2 : ∀ {bs : Nat} {v : Value} {n : Nat} {xs : List Value}, w8.ownsRow bs 26 1 v n xs → v.ownBlock ≠ some W → w9.ownsRow bs 26 1 v n xs := fun r hne => by
    rw [e9]
    exact ownsRow_setCell_other (ownsRow_setCell_other r (a := ⟨W, 4, none⟩) hne _) (a := ⟨W, 4, none⟩) hne _
  have hF9 : w9.rowIs W 66 22 (upd (upd F 4 (.int .i32 1)) 4 (.int .i32 0)) := by rw [e9]; exact row_set (row_set f1 4 _) 4 _
  have hG9 := set2 g1 (row_ne g1 f1 (by decide))
  have hO9 := set2 hO8 (row_ne hO8 f1 (by decide))
  have hL9 := set2 hL8 (row_ne hL8 f1 (by decide))
  have hP9 := set2 hP8 (row_ne hP8 f1 (by decide))
  obtain ⟨qa, qc, hqv, hqr⟩ := reads_of (own2 hW0 hWO) (by simp)
  obtain ⟨wa', wc', hwv, hwr⟩ := reads_of (own2 hW8 hWw) rfl
  simp only [Value.slice.injEq] at hwv
  obtain ⟨rfl, rfl, rfl⟩ := hwv
  rw [List.length_append] at hqv
  refine ⟨rfl, ⟨qa, qc, hqv, ?_⟩, ?_⟩
  · refine ⟨?_, ?_, ?_, ?_, ?_, hqr, hwr, row_reads hO9, row_reads hL9, row_reads hP9, fun t ht => ?_, hsub⟩
    · rw [hF9.cell (by omega)]; simp [upd, f3]
    · rw [hF9.cell (by omega)]; simp [upd, f4]
    · rw [hF9.cell (by omega)]; simp [upd, f5]
    · rw [hG9.cell (by omega), g2, hqv]
    · rw [hG9.cell (by omega), g3]
    · by_cases e : t ∈ L
      · obtain ⟨f, r1, r2, r3, r4⟩ := hD.tim t e
        rw [(set2 r1 (row_ne r1 f1 (by decide))).cell (by omega), r4, if_pos e]
        rfl
      · obtain ⟨nx, ht'⟩ := h.tim_of t ht
        have : Tim t (Du t) nx 0 w8 := hD.grew.tim (by
          obtain ⟨f, r, _⟩ := ht'
          obtain ⟨⟨F, f1, _⟩, aa⟩ := h.whe
          obtain ⟨G, g1, _⟩ := h.drv
          obtain ⟨⟨c0, a0, _⟩, ⟨m0, b0, _⟩, e0⟩ := h.r0
          obtain ⟨⟨c1, a1, _⟩, ⟨m1, b1, _⟩, e1⟩ := h.r1
          rintro ((e' | e' | e' | e' | e' | e' | e' | e') | e' | e' | e')
          · exact row_ne r f1 (by decide) e'
          · exact row_ne r aa (by decide) e'
          · exact row_ne r a0 (by decide) e'
          · exact row_ne r e0 (by decide) e'
          · exact row_ne r b0 (by decide) e'
          · exact row_ne r a1 (by decide) e'
          · exact row_ne r e1 (by decide) e'
          · exact row_ne r b1 (by decide) e'
          · exact row_ne r g1 (by decide) e'
          · exact e e'
          · exact owns_ne hQ r (by decide) e') ht'
        obtain ⟨f, r1, r2, r3, r4⟩ := this
        rw [(set2 r1 (row_ne r1 f1 (by decide))).cell (by omega), r4, if_neg e]
        rfl
  · have hold := h.blk.old
    rw [e9]
    refine ((hD.grew.below hB7 ?_).setCell (p := ⟨W, 4, none⟩) hold.1 _).setCell (p := ⟨W, 4, none⟩) hold.1 _
    rintro k ((e | e | e | e | e | e | e | e) | e | e | e)
    · omega
    · omega
    · omega
    · omega
    · omega
    · omega
    · omega
    · omega
    · omega
    · exact h.old k (hsub k e)
    · have := (hQ.lt k e).1; omega
end
end Go.Proofs.YbulkcyrqDoor
