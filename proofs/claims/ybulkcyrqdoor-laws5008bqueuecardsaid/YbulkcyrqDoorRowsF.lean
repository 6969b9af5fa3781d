/-
  Rows of pointers to timers; small facts for the law's walk.
-/
import Derived.Test.YbulkcyrqDoorWant
import Derived.Deep.Cut
import Derived.Deep.CutRange
import Derived.Deep.RegionLaw
namespace Go.Proofs.YbulkcyrqDoor
open Go.RowKit

def rowF (l : List Nat) : Nat → Value := fun i => tp l[i]?
theorem rowF_snoc (l : List Nat) (t : Nat) (i : Nat) : rowF (l ++ [t]) i = upd (rowF l) l.length (ptr t) i := by
  unfold rowF upd
  by_cases e : i = l.length
  · subst e; simp [tp, ptr]
  · rw [if_neg e]
    by_cases h : i < l.length
    · rw [List.getElem?_append_left h]
    · have e1 : (l ++ [t])[i]? = none := List.getElem?_eq_none (by simp; omega)
      have e2 : l[i]? = none := List.getElem?_eq_none (by omega)
      simp only [e1, e2]
theorem row_snoc {w : World} {b n t : Nat} {l : List Nat} (h : w.rowIs b 26 n (rowF l)) : (w.setCell ⟨b, l.length, none⟩ (ptr t)).rowIs b 26 n (rowF (l ++ [t])) :=
  (row_set h l.length (ptr t)).congr fun i _ => (rowF_snoc l t i).symm
theorem row_news {w : World} {b n : Nat} {l : List Nat} (h : w.rowIs b 26 n (rowF l)) (hn : l.length = n) : ∀ j u, (l.map ptr)[j]? = some u → w.cell? ((⟨b, 0, none⟩ : Addr).add j) = some u := by
  intro j u hu
  have hj : j < l.length := by
    rcases Nat.lt_or_ge j l.length with h | h
    · exact h
    · rw [List.getElem?_eq_none (by simpa using h)] at hu; cases hu
  have e : (⟨b, 0, none⟩ : Addr).add j = ⟨b, j, none⟩ := by unfold Addr.add; split <;> simp_all
  rw [e, h.cell (by omega)]
  simp only [List.getElem?_map, List.getElem?_eq_getElem hj, Option.map_some, Option.some.injEq] at hu
  subst hu
  simp [rowF, List.getElem?_eq_getElem hj, tp, ptr]
theorem ptr_one (l : List Nat) : ∀ u ∈ l.map ptr, u.oneCell' = true := by
  intro u hu
  obtain ⟨x, _, rfl⟩ := List.mem_map.1 hu
  rfl
theorem row_made (w : World) (n : Nat) : (w.alloc (.cells (madeCells #[.pointer none] n) 26)).rowIs w.heap.size 26 n (rowF []) := by
  have hs : (madeCells #[Value.pointer none] n).size = n := by simp [size_madeCells]
  have h := row_alloc w (madeCells #[.pointer none] n) 26 n hs
  refine h.congr fun i hi => ?_
  unfold nths rowF
  simp only [madeCells]
  simp [Array.getD, hi, tp, Nat.mod_one]

theorem fresh_timer (w : World) (a : Array Value) (h9 : a.size = 9) (d : Int) (h3 : a[3]? = some (.int .i64 d)) (h6 : a[6]? = some (.pointer none)) (h7 : a[7]? = some (.int .u32 0)) : Tim w.heap.size d none 0 (w.alloc (.cells a 31)) := by
  refine ⟨_, row_alloc w a 31 9 h9, ?_, ?_, ?_⟩
  · simp only [nths, Array.getD_eq_getD_getElem?, h3, Option.getD_some]
  · simp only [nths, Array.getD_eq_getD_getElem?, h6, Option.getD_some]; rfl
  · simp only [nths, Array.getD_eq_getD_getElem?, h7, Option.getD_some]

theorem step_append_own {P : Program} (w : World) {ops : Array Oper} {o : Oper} {a : Act} {K : Act → World → Prop} {Q : Exit → Act → World → Prop} {E : Prop} (hgd : o.guard = none) (s x : Operand) (t : TypeId)
    (ho : o.op = .call { callee := .builtin .append, args := #[s, x], argTypes := #[t, t] })
    (base : Nat) (e : TypeId) (i : TypeInfo) (z : Value) (size bytes : Nat) (ht : P.underlying t = some (.slice e)) (hi : P.info? e = some i) (hz : i.zero = some z)
    (hsize : i.size = size) (hby : i.bytes = bytes) (hzs : z.cells.size = size) (hsz : 0 < size)
    (v : Value) (n : Nat) (xs : List Value) (hs : a.eval s = v) (hown : w.ownsRow base e size v n xs)
    (ad : Addr) (m c : Nat) (news : List Value) (hx : a.eval x = .slice (some ad) m c) (hl : news.length = m * size) (hnews : ∀ j u, news[j]? = some u → w.cell? (ad.add j) = some u) (h1 : ∀ u ∈ news, u.oneCell' = true)
    (h63 : n + m ≤ maxLen) (hbytes : (n + m) * bytes ≤ 140737488355328) (hbase : base ≤ w.heap.size)
    (h : ∀ v' w', w'.ownsRow base e size v' (n + m) (xs ++ news) → w.grownBy w' v.ownBlock → (v' = .slice none 0 0 ↔ v = .slice none 0 0 ∧ m = 0) → K (a.put o.dst v') w') :
    if Region.wanted o (yielded ops a.tmps) = true then Oper.wp P o a w K Q else E := by
  have hw : Region.wanted o (yielded ops a.tmps) = true := by simp [Region.wanted, hgd]
  rw [if_pos hw]
  exact wp_append_own w s x t ho base e i z size bytes ht hi hz hsize hby hzs hsz v n xs hs hown ad m c news hx hl hnews h1 h63 hbytes hbase h

theorem least_snoc {pl : List Nat} {Du : Nat → Int} {t d : Nat} {m : Int} (hn : t ∉ pl) (h1 : 1 ≤ d) (h2 : d < 128) (hmin : (pl = [] ∧ m = 4611686018427387904) ∨ ∃ M : Nat, m = M ∧ Least pl Du M) :
    ((d : Int) < m → Least (pl ++ [t]) (setDu Du t d) d) ∧ (¬ (d : Int) < m → ∃ M : Nat, m = M ∧ Least (pl ++ [t]) (setDu Du t d) M) := by
  have hall : ∀ P : Int → Prop, (∀ x ∈ pl, P (Du x)) → P d → ∀ x ∈ pl ++ [t], P (setDu Du t d x) := by
    intro P hp hd x hx
    rcases List.mem_append.1 hx with e | e
    · rw [setDu_mem hn e]; exact hp x e
    · have : x = t := by simpa using e
      subst this; rw [setDu_same]; exact hd
  constructor
  · intro hlt
    refine ⟨h1, h2, ⟨t, by simp, setDu_same _ _ _⟩, hall (fun v => (d : Int) ≤ v) (fun x hx => ?_) (Int.le_refl _)⟩
    rcases hmin with ⟨e, _⟩ | ⟨M, e, _, _, _, hle⟩
    · subst e; cases hx
    · have := hle x hx; omega
  · intro hge
    rcases hmin with ⟨_, e⟩ | ⟨M, e, hM1, hM2, ⟨x, hx, hxM⟩, hle⟩
    · omega
    · exact ⟨M, e, hM1, hM2, ⟨x, by simp [hx], by rw [setDu_mem hn hx]; exact hxM⟩, hall (fun v => (M : Int) ≤ v) hle (by omega)⟩

/-- What turns no row of pointers keeps them all. -/
theorem keep26 {S : Nat → Prop} {w w' : World} (o : Only S w w') (hS : ∀ k, S k → ∃ tt n f, w.rowIs k tt n f ∧ tt ≠ 26) :
    (∀ b n f, w.rowIs b 26 n f → w'.rowIs b 26 n f) ∧ (∀ base v n xs, w.ownsRow base 26 1 v n xs → w'.ownsRow base 26 1 v n xs) := by
  refine ⟨fun b n f r => o.row (fun e => ?_) r, fun base v n xs r => owns_of_block r fun g e => o.block g fun h => ?_⟩
  · obtain ⟨tt, m, g, r', hne⟩ := hS b e
    exact row_ne r' r hne rfl
  · obtain ⟨tt, m, f, r', hne⟩ := hS g h
    exact owns_ne r r' hne e

theorem Sta.fresh {B W A D l0 s0 u0 l1 s1 u1 : Nat} {now : Int} {st : Bool} {w : World} (hb : Blocks B W A D l0 s0 u0 l1 s1 u1) (h1 : Whe W A l0 l1 D 0 now 0 none 0 st w) (h2 : Drv D (.slice none 0 0) 0 w) (r0 : Ring l0 s0 u0 (fun _ => []) 0 w) (r1 : Ring l1 s1 u1 (fun _ => []) 0 w) :
    Sta B W A D l0 s0 u0 l1 s1 u1 now st (.slice none 0 0) 0 [] [] (fun _ => 0) w :=
  ⟨hb, h1, h2, r0, r1, trivial, fun _ _ => trivial, by simp, by simp, by simp, by simp, by simp⟩

section
variable {B W A D l0 s0 u0 l1 s1 u1 : Nat} {now : Int} {st : Bool} {qv : Value} {head : Int} {ls pl : List Nat} {Du : Nat → Int} {w w' : World}
theorem Keeps.grown {x y z : World} (h : Keeps x y) (g : y.grownBy z none) : Keeps x z := h.trans fun k t n f r _ => g.block k r.lt (by simp)

theorem Sta.setDrv (h : Sta B W A D l0 s0 u0 l1 s1 u1 now st qv head ls pl Du w) {qv' : Value} {head' : Int} (hD : Drv D qv' head' w') (o : Only (fun k => k = D) w w') : Sta B W A D l0 s0 u0 l1 s1 u1 now st qv' head' ls pl Du w' := by
  obtain ⟨⟨F, f1, f2⟩, a1⟩ := h.whe
  obtain ⟨G, g1, g2⟩ := h.drv
  have nD : ∀ {b tt n f}, w.rowIs b tt n f → tt ≠ 52 → ¬ b = D := fun r hne => row_ne r g1 hne
  have hch : ∀ {ts : List Nat}, Chain Du ts w → Chain Du ts w' := fun hc => hc.of_block fun x hx => o.block x (by obtain ⟨nx, f, r, _⟩ := hc.mem x hx; exact nD r (by decide))
  have hr : ∀ {l s u cb : Nat} {R : Nat → List Nat}, Ring l s u R cb w → Ring l s u R cb w' := fun {l s u cb R} r => by
    obtain ⟨⟨c, c1, c2⟩, ⟨m, m1, m2⟩, s1⟩ := r
    exact ⟨⟨c, o.row (nD c1 (by decide)) c1, c2⟩, ⟨m, o.row (nD m1 (by decide)) m1, m2⟩, o.row (nD s1 (by decide)) s1⟩
  exact ⟨h.blk, ⟨⟨F, o.row (nD f1 (by decide)) f1, f2⟩, o.row (nD a1 (by decide)) a1⟩, hD, hr h.r0, hr h.r1, hch h.cl, fun j hj => hch (h.ch j hj), h.nd, h.dl, h.dp, h.len, h.old⟩
theorem Sta.setQ (h : Sta B W A D l0 s0 u0 l1 s1 u1 now st qv head ls pl Du w) (qv' : Value) : Sta B W A D l0 s0 u0 l1 s1 u1 now st qv' head ls pl Du (w.setCell ⟨D, 7, none⟩ qv') := by
  obtain ⟨G, g1, g2, g3⟩ := h.drv
  exact h.setDrv ⟨_, row_set g1 7 _, by simp [upd], by simp [upd, g3]⟩ ((Only.refl (fun k => k = D) w).setCell (a := ⟨D, 7, none⟩) rfl _)
theorem Sta.setH (h : Sta B W A D l0 s0 u0 l1 s1 u1 now st qv head ls pl Du w) (head' : Int) : Sta B W A D l0 s0 u0 l1 s1 u1 now st qv head' ls pl Du (w.setCell ⟨D, 8, none⟩ (.int .i64 head')) := by
  obtain ⟨G, g1, g2, g3⟩ := h.drv
  exact h.setDrv ⟨_, row_set g1 8 _, by simp [upd, g2], by simp [upd]⟩ ((Only.refl (fun k => k = D) w).setCell (a := ⟨D, 8, none⟩) rfl _)

theorem Sta.cells (h : Sta B W A D l0 s0 u0 l1 s1 u1 now st qv head ls pl Du w) : w.cell? ⟨W, 20, none⟩ = some (.pointer (some ⟨D, 0, none⟩)) ∧ w.cell? ⟨D, 7, none⟩ = some qv ∧ w.cell? ⟨D, 8, none⟩ = some (.int .i64 head) ∧ w.frozen? ⟨D, 7, none⟩ = false ∧ w.frozen? ⟨D, 8, none⟩ = false ∧ (∃ F, w.rowIs W 66 22 F) ∧ (∃ G, w.rowIs D 52 18 G) := by
  obtain ⟨⟨F, f1, f2⟩, a1⟩ := h.whe
  obtain ⟨G, g1, g2, g3⟩ := h.drv
  exact ⟨by rw [f1.cell (by omega), f2.drv], by rw [g1.cell (by omega), g2], by rw [g1.cell (by omega), g3], g1.frozen 7, g1.frozen 8, ⟨F, f1⟩, ⟨G, g1⟩⟩
end
end Go.Proofs.YbulkcyrqDoor
