/-
  dispatch on the state: which timers it takes.
-/
import Derived.Test.YbulkcyrqDoorState
namespace Go.Proofs.YbulkcyrqDoor
open Go.RowKit

/-- M is the earliest tick of the placed timers. -/
def Least (pl : List Nat) (Du : Nat → Int) (M : Nat) : Prop := 1 ≤ M ∧ M < 128 ∧ (∃ t ∈ pl, Du t = M) ∧ ∀ t ∈ pl, (M : Int) ≤ Du t

/-- The timers that dispatch takes. -/
def wantL (st : Bool) (now : Int) (ls pl : List Nat) (Du : Nat → Int) (M : Nat) : List Nat :=
  if st = true then [] else if ls ≠ [] then ls.reverse else if pl ≠ [] ∧ (M : Int) ≤ now then lis pl Du M else []
def hdL (st : Bool) (ls : List Nat) : Option Nat := if st = true then ls.reverse.head? else none
def cntL (st : Bool) (ls : List Nat) : Int := if st = true then ls.length else 0

theorem tab_only {S : Nat → Prop} {w w' : World} {g : Nat} {tab : List Nat} (h : TabAt g tab w) (o : Only S w w') (hg : ¬ S g) : TabAt g tab w' := fun j hj => by
  rw [World.cell?_of_block (a := ⟨g, j, none⟩) (o.block g hg)]; exact h j hj

section
variable {B W A D l0 s0 u0 l1 s1 u1 : Nat} {now : Int} {st : Bool} {qv : Value} {head : Int} {ls pl : List Nat} {Du : Nat → Int} {w : World}

def Wset (W A l0 s0 u0 l1 s1 u1 : Nat) : Nat → Prop := fun k => k = W ∨ k = A ∨ k = l0 ∨ k = s0 ∨ k = u0 ∨ k = l1 ∨ k = s1 ∨ k = u1

theorem lis_nil {M j : Nat} (h : ∀ t ∈ pl, (M : Int) ≤ Du t) (hj : j < M) : lis pl Du j = [] := by
  refine List.eq_nil_iff_forall_not_mem.2 fun t ht => ?_
  have := lis_mem ht
  have := h t this.1
  omega
theorem lis_ne {M t : Nat} (ht : t ∈ pl) (e : Du t = M) : lis pl Du M ≠ [] := by
  intro h
  have : t ∈ lis pl Du M := List.mem_reverse.2 (List.mem_filter.2 ⟨ht, by simpa using e⟩)
  rw [h] at this
  cases this

theorem andNot_ex (m j : Nat) (hm : m < 18446744073709551616) (hj : j < 64) : ∃ m' : Nat, bits .andNot .u64 (m : Int) (IntKind.u64.wrap (2 ^ j)) = (m' : Int) := by
  rw [wrap_two_pow j hj]
  exact ⟨_, u64_andNot_nat m (2 ^ j) hm (Nat.pow_lt_pow_right (by omega) hj)⟩

theorem Sta.taken (h : Sta B W A D l0 s0 u0 l1 s1 u1 now st qv head ls pl Du w) (base n M : Nat) (xs : List Value) (hown : w.ownsRow base 26 1 qv n xs) (hbase : base ≤ w.heap.size) (hn : n ≤ 1000) (hM : pl ≠ [] → Least pl Du M) (hT : TabAt 0 Lib.deBruijn64tab w) (hW0 : W ≠ 0)
    (w1 : World) (o : Only (fun k => k = W) w w1) (hW : Whe W A l0 l1 D 1 now 0 ls.reverse.head? ls.length st w1) :
    Calls Ybad.prog 13 #[.pointer (some ⟨W, 0, none⟩), qv] w1 fun e w' => ∃ v', e = .returned v' ∧ Took W (Wset W A l0 s0 u0 l1 s1 u1) base qv n xs 1 D (wantL st now ls pl Du M) Du (hdL st ls) (cntL st ls) w1 v' w' := by
  obtain ⟨⟨F, f1, f2⟩, a1⟩ := hW
  have hW : Whe W A l0 l1 D 1 now 0 ls.reverse.head? ls.length st w1 := ⟨⟨F, f1, f2⟩, a1⟩
  obtain ⟨⟨F0, f0, _⟩, _⟩ := h.whe
  have nW : ∀ {b tt n f}, w.rowIs b tt n f → tt ≠ 66 → ¬ b = W := fun r hne => row_ne r f0 hne
  have hown1 : w1.ownsRow base 26 1 qv n xs := owns_of_block hown fun g e => o.block g (fun e' => owns_ne hown f0 (by decide) (e' ▸ e))
  have hbase1 : base ≤ w1.heap.size := by rw [o.size]; exact hbase
  have hch : ∀ {ts : List Nat}, Chain Du ts w → Chain Du ts w1 := fun hc => hc.of_block fun x hx => o.block x (by obtain ⟨nx, f, r, _⟩ := hc.mem x hx; exact nW r (by decide))
  have hr : ∀ {l s u cb : Nat} {R : Nat → List Nat}, Ring l s u R cb w → Ring l s u R cb w1 := fun {l s u cb R} r => by
    obtain ⟨⟨c, c1, c2⟩, ⟨m, m1, m2⟩, s1⟩ := r
    exact ⟨⟨c, o.row (nW c1 (by decide)) c1, c2⟩, ⟨m, o.row (nW m1 (by decide)) m1, m2⟩, o.row (nW s1 (by decide)) s1⟩
  have hT1 := tab_only hT o (fun e => hW0 e.symm)
  have hpn := (List.nodup_append.1 h.nd).2.1
  cases st with
  | true =>
    have e : wantL true now ls pl Du M = [] := if_pos rfl
    have e1 : hdL true ls = ls.reverse.head? := if_pos rfl
    have e2 : cntL true ls = ls.length := if_pos rfl
    rw [e, e1, e2]
    exact take_stop W A l0 l1 D base _ qv n xs Du 1 now 0 _ _ w1 hW hown1
  | false =>
    have e1 : hdL false ls = none := if_neg (by decide)
    have e2 : cntL false ls = 0 := if_neg (by decide)
    rw [e1, e2]
    unfold wantL
    rw [if_neg (by decide)]
    by_cases hls : ls = []
    · rw [if_neg (by simpa using hls)]
      subst hls
      have hW' : Whe W A l0 l1 D 1 now 0 none 0 false w1 := hW
      have R0 := hr h.r0
      have R1 := hr h.r1
      obtain ⟨⟨c0, a0, b0, d0⟩, ⟨m0, p0, q0, t0⟩, z0⟩ := R0
      obtain ⟨⟨c1, a1, b1, d1⟩, ⟨m1, p1, q1, t1⟩, z1⟩ := R1
      have hlen := h.len
      by_cases hpl : pl = []
      · subst hpl
        rw [if_neg (by simp)]
        have hc0 : c0 = 0 := d0.2 (fun j _ => rfl)
        have hc1 : c1 = 0 := d1.2 (fun j _ => rfl)
        subst hc0 hc1
        exact take_idle W A l0 l1 D base _ qv n xs Du 1 now 0 0 w1 hW' hown1 (next_none W A l0 l1 D s0 u0 s1 u1 1 now none 0 false w1 hW' a0 a1)
      · obtain ⟨hM1, hM2, ⟨tM, htM, eM⟩, hle⟩ := hM hpl
        have hne := lis_ne htM eM
        by_cases hlo : M < 64
        · have hbit := (t0 M hlo).2 hne
          have hlow : ∀ i, i < M → m0.testBit i = false := fun i hi => by
            have : ¬ m0.testBit i = true := fun e => (t0 i (by omega)).1 e (lis_nil hle hi)
            simpa using this
          have hctz := ctz_least m0 q0 M hbit hlow
          have hm0 : m0 ≠ 0 := by rintro rfl; simp at hbit
          have hc0 : 1 ≤ c0 := by
            rcases Nat.eq_zero_or_pos c0 with e | e
            · exact absurd (d0.1 e M hlo) hne
            · exact e
          have hN := next_lo W A l0 l1 D s0 u0 1 now none 0 false c0 m0 M w1 q0 hm0 hctz hlo hT1 hW' a0 p0 (by omega)
          by_cases hnow : (M : Int) ≤ now
          · rw [if_pos ⟨hpl, hnow⟩]
            obtain ⟨m', han⟩ := andNot_ex m0 M q0 hlo
            have hcM := hch (h.ch M hM2)
            have hnM := lis_nodup hpn Du M
            have hlM := lis_len pl Du M
            have hdM : ∀ x ∈ lis pl Du M, Du x ≤ M := fun x hx => by have := (lis_mem hx).2; omega
            have hhM : (fun j => tp ((fun j => lis pl Du j) j).head?) M = tp (lis pl Du M).head? := rfl
            revert hne hcM hnM hdM hhM hlM
            generalize hL : lis pl Du M = L
            intro hne hcM hnM hlM hdM hhM
            cases L with
            | nil => exact absurd rfl hne
            | cons t ts =>
              exact take_go W A l0 l1 D base l0 l1 l0 s0 u0 M m0 m' _ (fun k e => by unfold Wset; rcases e with e | e | e | e | e <;> simp [e]) qv n xs Du 1 now 0 0 c0 M t ts _ _ w1 hnow hlo (by omega) (by omega) hW' hown1 hbase1 (by omega) hcM hnM hdM z0 a0 p0 hhM han hN
                (fun w2 o2 => reach_lo W A l0 l1 D 1 now none 0 false M w2 hlo (hW'.of_only o2 (fun e => e) (fun e => e)))
          · rw [if_neg (fun e => hnow e.2)]
            exact take_late W A l0 l1 D base _ qv n xs Du 1 now 0 0 _ M w1 (by omega) hW' hown1 hN
        · obtain ⟨j, hj⟩ : ∃ j, M = 64 + j := ⟨M - 64, by omega⟩
          have hc0 : c0 = 0 := d0.2 (fun i hi => lis_nil hle (by omega))
          subst hc0
          have hbit := (t1 j (by omega)).2 (by rw [← hj]; exact hne)
          have hlow : ∀ i, i < j → m1.testBit i = false := fun i hi => by
            have : ¬ m1.testBit i = true := fun e => (t1 i (by omega)).1 e (lis_nil hle (by omega))
            simpa using this
          have hctz := ctz_least m1 q1 j hbit hlow
          have hm1 : m1 ≠ 0 := by rintro rfl; simp at hbit
          have hc1 : 1 ≤ c1 := by
            rcases Nat.eq_zero_or_pos c1 with e | e
            · exact absurd (d1.1 e j (by omega)) (by rw [← hj]; exact hne)
            · exact e
          have hN := next_hi W A l0 l1 D s0 u0 s1 u1 1 now none 0 false c1 m1 j w1 q1 hm1 hctz (by omega) hT1 hW' a0 a1 p1 (by omega)
          rw [← hj] at hN
          by_cases hnow : (M : Int) ≤ now
          · rw [if_pos ⟨hpl, hnow⟩]
            obtain ⟨m', han⟩ := andNot_ex m1 j q1 (by omega)
            have hcM := hch (h.ch M hM2)
            have hnM := lis_nodup hpn Du M
            have hlM := lis_len pl Du M
            have hdM : ∀ x ∈ lis pl Du M, Du x ≤ M := fun x hx => by have := (lis_mem hx).2; omega
            have hhM : (fun j => tp ((fun j => lis pl Du (64 + j)) j).head?) j = tp (lis pl Du M).head? := by rw [hj]
            revert hne hcM hnM hdM hhM hlM
            generalize hL : lis pl Du M = L
            intro hne hcM hnM hlM hdM hhM
            cases L with
            | nil => exact absurd rfl hne
            | cons t ts =>
              exact take_go W A l0 l1 D base l1 l0 l1 s1 u1 j m1 m' _ (fun k e => by unfold Wset; rcases e with e | e | e | e | e <;> simp [e]) qv n xs Du 1 now 0 0 c1 M t ts _ _ w1 hnow (by omega) (by omega) (by omega) hW' hown1 hbase1 (by omega) hcM hnM hdM z1 a1 p1 hhM han hN
                (fun w2 o2 => reach_hi W A l0 l1 D 1 now none 0 false M w2 (by omega) hM2 (hW'.of_only o2 (fun e => e) (fun e => e)))
          · rw [if_neg (fun e => hnow e.2)]
            exact take_late W A l0 l1 D base _ qv n xs Du 1 now 0 0 _ M w1 (by omega) hW' hown1 hN
    · rw [if_pos hls]
      have hcl := hch h.cl
      have hln : ls.reverse.Nodup := nodup_rev (List.nodup_append.1 h.nd).1
      have hdl : ∀ x ∈ ls.reverse, Du x ≤ now := fun x hx => by rw [h.dl x (List.mem_reverse.1 hx)]; omega
      have hlen : ls.reverse.length ≤ 8 := by rw [List.length_reverse]; exact h.len.1
      have hnr : ls.reverse ≠ [] := by simpa using hls
      revert hW hcl hln hdl hlen hnr
      generalize ls.reverse = L
      intro hW hcl hln hdl hlen hnr
      cases L with
      | nil => exact absurd rfl hnr
      | cons t ts => exact take_due W A l0 l1 D base _ (.inl rfl) qv n xs Du 1 now 0 t ts _ w1 hW hown1 hbase1 (by omega) hcl hln hdl

theorem Sta.dispatched (h : Sta B W A D l0 s0 u0 l1 s1 u1 now st qv head ls pl Du w) (base n M : Nat) (xs : List Value) (hown : w.ownsRow base 26 1 qv n xs) (hbase : base ≤ w.heap.size) (hn : n ≤ 1000) (hM : pl ≠ [] → Least pl Du M) (hT : TabAt 0 Lib.deBruijn64tab w) (hW0 : W ≠ 0) :
    Calls Ybad.prog 7 #[.pointer (some ⟨W, 0, none⟩)] w fun e w' => e = .returned (.tuple #[]) ∧ ∃ v', Disp W (Wset W A l0 s0 u0 l1 s1 u1) base qv n xs D head (wantL st now ls pl Du M) Du (hdL st ls) (cntL st ls) w v' w' := by
  refine dispatch_any W A l0 l1 D base _ (.inl rfl) ?_ qv n xs Du now 0 _ _ _ _ head st _ w h.whe h.drv hown ?_ fun w1 o hW => h.taken base n M xs hown hbase hn hM hT hW0 w1 o hW
  · obtain ⟨G, g1, _⟩ := h.drv
    obtain ⟨⟨F0, f0, _⟩, aa⟩ := h.whe
    obtain ⟨⟨c0, a0, _⟩, ⟨m0, b0, _⟩, e0⟩ := h.r0
    obtain ⟨⟨c1, a1, _⟩, ⟨m1, b1, _⟩, e1⟩ := h.r1
    rintro (e | e | e | e | e | e | e | e)
    · exact row_ne g1 f0 (by decide) e
    · exact row_ne g1 aa (by decide) e
    · exact row_ne g1 a0 (by decide) e
    · exact row_ne g1 e0 (by decide) e
    · exact row_ne g1 b0 (by decide) e
    · exact row_ne g1 a1 (by decide) e
    · exact row_ne g1 e1 (by decide) e
    · exact row_ne g1 b1 (by decide) e
  · intro t ht
    have : t ∈ ls ++ pl := by
      unfold wantL at ht
      split at ht
      · cases ht
      · split at ht
        · simp [List.mem_reverse.1 ht]
        · split at ht
          · simp [(lis_mem ht).1]
          · cases ht
    obtain ⟨nx, f, r, _⟩ := h.tim_of t this
    exact ⟨f, r⟩
end
end Go.Proofs.YbulkcyrqDoor
