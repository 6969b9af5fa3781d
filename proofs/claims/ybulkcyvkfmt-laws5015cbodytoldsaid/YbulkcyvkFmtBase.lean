/-
  FRAMES AND ROWS: what the walks of this seat share.
-/
import Derived.Test.YbulkcyvkFmtFacts
import Derived.WalkSpells
import Derived.Deep.OwnRows
import Derived.Deep.Cut
import Derived.Deep.CutRange
import Derived.Deep.RegionLaw
import Derived.Deep.RegionWith
import Derived.Laws.CopyOwn
namespace Go.Proofs.YbulkcyvkFmt
open Go.RowKit

theorem hide {p : Prop} (h : p) : Hid p := h
theorem unhide {p : Prop} (h : Hid p) : p := h

/-- No block turns but those of S; none is laid. -/
structure Only (S : Nat → Prop) (w w' : World) : Prop where
  os : w'.os = w.os
  tape : w'.tape = w.tape
  output : w'.output = w.output
  size : w'.heap.size = w.heap.size
  block : ∀ k, ¬ S k → w'.heap[k]? = w.heap[k]?

theorem Only.refl (S : Nat → Prop) (w : World) : Only S w w := ⟨rfl, rfl, rfl, rfl, fun _ _ => rfl⟩
theorem Only.trans {S : Nat → Prop} {x y z : World} (h : Only S x y) (k : Only S y z) : Only S x z :=
  ⟨k.os.trans h.os, k.tape.trans h.tape, k.output.trans h.output, k.size.trans h.size, fun i hi => (k.block i hi).trans (h.block i hi)⟩
theorem Only.mono {S T : Nat → Prop} {x y : World} (h : Only S x y) (hs : ∀ k, S k → T k) : Only T x y :=
  ⟨h.os, h.tape, h.output, h.size, fun i hi => h.block i (fun e => hi (hs i e))⟩
theorem Only.drew {S : Nat → Prop} {x y : World} (h : Only S x y) : Only S x y.drew := ⟨h.os, h.tape, h.output, h.size, h.block⟩
theorem Only.setCell {S : Nat → Prop} {x y : World} (h : Only S x y) {a : Addr} (ha : S a.block) (v : Value) : Only S x (y.setCell a v) :=
  h.trans ⟨rfl, rfl, rfl, by simp [World.setCell], fun i hi => Below.heap_setCell _ _ _ _ (fun e => hi (e ▸ ha))⟩
theorem Only.row {S : Nat → Prop} {x y : World} (h : Only S x y) {b : Nat} {t : TypeId} {n : Nat} {f : Nat → Value} (hb : ¬ S b) (r : x.rowIs b t n f) : y.rowIs b t n f := r.of_block (h.block b hb)
theorem Only.below {S : Nat → Prop} {x y : World} (h : Only S x y) {B : Nat} (hB : ∀ k, S k → B ≤ k) : Below B x y :=
  ⟨h.os, h.tape, h.output, by rw [h.size]; exact Nat.le_refl _, fun k hk => h.block k (fun e => by have := hB k e; omega)⟩
theorem Only.cell {S : Nat → Prop} {x y : World} (h : Only S x y) {a : Addr} (hb : ¬ S a.block) : y.cell? a = x.cell? a := World.cell?_of_block (h.block a.block hb)

def upd (f : Nat → Value) (i : Nat) (v : Value) : Nat → Value := fun j => if j = i then v else f j
theorem row_set {w : World} {b : Nat} {t : TypeId} {n : Nat} {f : Nat → Value} (h : w.rowIs b t n f) (i : Nat) (v : Value) : (w.setCell ⟨b, i, none⟩ v).rowIs b t n (upd f i v) := h.set i v
theorem row_ne {w : World} {a b : Nat} {t t' : TypeId} {n n' : Nat} {f f' : Nat → Value} (h : w.rowIs a t n f) (k : w.rowIs b t' n' f') (hne : t ≠ t') : a ≠ b := by
  rintro rfl
  obtain ⟨c, hc, _⟩ := h
  obtain ⟨c', hc', _⟩ := k
  rw [hc] at hc'
  simp at hc'
  exact hne hc'.2

/-- A block of octets. -/
def Oct (g : Nat) (cur : List Value) (w : World) : Prop := w.heap[g]? = some (.cells cur.toArray 5 (0, 0))
theorem Oct.lt {g : Nat} {cur : List Value} {w : World} (h : Oct g cur w) : g < w.heap.size := by
  rcases Nat.lt_or_ge g w.heap.size with e | e
  · exact e
  · unfold Oct at h; rw [Array.getElem?_eq_none e] at h; cases h
theorem Oct.ne {g : Nat} {cur : List Value} {w : World} (h : Oct g cur w) {b : Nat} {t : TypeId} {n : Nat} {f : Nat → Value} (r : w.rowIs b t n f) (hne : t ≠ 5) : b ≠ g := by
  rintro rfl
  obtain ⟨c, hc, _⟩ := r
  unfold Oct at h
  rw [hc] at h
  simp at h
  exact hne h.2
theorem Oct.of_block {g : Nat} {cur : List Value} {w w' : World} (h : Oct g cur w) (e : w'.heap[g]? = w.heap[g]?) : Oct g cur w' := e.trans h
theorem Oct.cell {g : Nat} {cur : List Value} {w : World} (h : Oct g cur w) (i : Nat) : w.cell? ⟨g, i, none⟩ = cur[i]? := by
  unfold Oct at h
  simp [World.cell?, h]
theorem Oct.frozen {g : Nat} {cur : List Value} {w : World} (h : Oct g cur w) (i : Nat) : w.frozen? ⟨g, i, none⟩ = false := by
  unfold Oct at h
  simp [World.frozen?, h]

/-- The octets pos, pos + 1 .. of what is read. -/
def bytes (dat : Nat → Nat) (pos c : Nat) : List Value := (List.range c).map fun i => .int .u8 (dat (pos + i) : Int)
theorem bytes_len (dat : Nat → Nat) (pos c : Nat) : (bytes dat pos c).length = c := by simp [bytes]
theorem bytes_at (dat : Nat → Nat) (pos c j : Nat) (h : j < c) : (bytes dat pos c)[j]? = some (.int .u8 (dat (pos + j) : Int)) := by simp [bytes, h]
theorem bytes_get {dat : Nat → Nat} {pos c j : Nat} {v : Value} (h : (bytes dat pos c)[j]? = some v) : j < c ∧ v = .int .u8 (dat (pos + j) : Int) := by
  rcases Nat.lt_or_ge j c with e | e
  · rw [bytes_at _ _ _ _ e] at h
    exact ⟨e, (Option.some.inj h).symm⟩
  · rw [List.getElem?_eq_none (by rw [bytes_len]; exact e)] at h; cases h
theorem bytes_one (dat : Nat → Nat) (pos c : Nat) : ∀ v ∈ bytes dat pos c, v.oneCell' = true := by
  intro v hv
  obtain ⟨i, _, rfl⟩ := List.mem_map.1 hv
  rfl
theorem info5 : (Ybaf.prog.info? 5).map (·.size) = some 1 := by kernel_rfl
theorem addr_add (b o j : Nat) : (⟨b, o, none⟩ : Addr).add j = ⟨b, o + j, none⟩ := by unfold Addr.add; split <;> simp_all
/-- 'copy' as one step of a region that draws its order: no other block turns. -/
theorem step_copy_only (w : World) {ops : Array Oper} {o : Oper} {a : Act} {K : Act → World → Prop} {Q : Exit → Act → World → Prop} {E : Prop} (hgd : o.guard = none) (d s : Operand)
    (ho : o.op = .call { callee := .builtin .copy, args := #[d, s], argTypes := #[22, 22] }) (g off dLen dCap : Nat) (ad : Addr) (sLen sCap : Nat) (hd : a.eval d = .slice (some ⟨g, off, none⟩) dLen dCap) (hs : a.eval s = .slice (some ad) sLen sCap)
    (cur cs : List Value) (hg : Oct g cur w) (hn : cs.length = Nat.min sLen dLen) (hsrc : ∀ j v, cs[j]? = some v → w.cell? (ad.add j) = some v) (hfit : off + cs.length ≤ cur.length) (h1 : ∀ v ∈ cs, v.oneCell' = true)
    (h : ∀ w', Oct g (splice cur off cs) w' → Only (fun k => k = g) w w' → K (a.put o.dst (goInt cs.length)) w') :
    if Region.wanted o (yielded ops a.tmps) = true then Oper.wp Ybaf.prog o a w K Q else E := by
  have hw : Region.wanted o (yielded ops a.tmps) = true := by simp [Region.wanted, hgd]
  rw [if_pos hw]
  have hrun := run_copy_row (P := Ybaf.prog) w 22 22 o.type 5 g off dLen dCap ad sLen sCap cur.toArray 5 cs Ybaf.underlying22 info5 hg hn hsrc (by simpa using hfit) h1
  unfold Oper.wp
  simp [execOp, ho, resolve, invoke, builtin, hd, hs, hrun, Result.andThen]
  exact h _ (show _ = _ by simpa [splice] using setRow_heap w g _ _ 5 _ hg) ⟨rfl, rfl, rfl, by simp [World.setRow], fun k hk => setRow_other w g k _ hk⟩
end Go.Proofs.YbulkcyvkFmt
