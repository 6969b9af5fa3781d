/-
  The map of aircraft, as the model has it: its entries, a look-up, a store.
-/
import Derived.Test.YbulkcyuwDoorLwalk
import Derived.WideMake
namespace Go.Proofs.YbulkcyuwDoor
open Go.RowKit

/-- A frame that was heard; a fix; what is remembered of one aircraft. -/
structure Fr where
  t : Int
  o : Bool
  la : Nat
  lo : Nat
  c : Int
structure Fx where
  la : Nat
  lo : Nat
  t : Int
  c : Int
structure St where
  f0 : Fr
  f1 : Fr
  fx : Fx
def frZ : Fr := ⟨0, false, 0, 0, 0⟩
def stZ : St := ⟨frZ, frZ, ⟨0, 0, 0, 0⟩⟩
def acA (s : St) : Array Value := #[.int .i64 s.f0.t, .bool s.f0.o, .int .u32 s.f0.la, .int .u32 s.f0.lo, .int .u8 s.f0.c, .int .i64 s.f1.t, .bool s.f1.o, .int .u32 s.f1.la, .int .u32 s.f1.lo, .int .u8 s.f1.c, .float .f64 s.fx.la, .float .f64 s.fx.lo, .int .i64 s.fx.t, .int .u8 s.fx.c]
def acV (s : St) : Value := .agg (acA s)

def toE (x : Int × St × Nat) : MapEntry := ⟨.int .u32 x.1, acV x.2.1, x.2.2⟩
def lookL (k : Int) : List (Int × St × Nat) → Option St
  | [] => none
  | x :: L => if x.1 = k then some x.2.1 else lookL k L
def idxL (k : Int) : List (Int × St × Nat) → Option Nat
  | [] => none
  | x :: L => if x.1 = k then some 0 else (idxL k L).map (· + 1)
def putL (k : Int) (s : St) (ck : Nat) : List (Int × St × Nat) → List (Int × St × Nat)
  | [] => [(k, s, ck)]
  | x :: L => if x.1 = k then (k, s, x.2.2) :: L else x :: putL k s ck L

theorem look_put (k k' : Int) (s : St) (ck : Nat) : ∀ L, lookL k' (putL k s ck L) = if k' = k then some s else lookL k' L
  | [] => by simp [putL, lookL, eq_comm]
  | x :: L => by
    by_cases h : x.1 = k
    · by_cases h' : k' = k
      · simp [putL, lookL, h, h']
      · have : ¬ k = k' := fun e => h' e.symm
        simp [putL, lookL, h, h', this]
    · have ih := look_put k k' s ck L
      by_cases h' : k' = k
      · subst h'
        simp [putL, lookL, h] at ih ⊢
        exact ih
      · simp only [putL, h, if_false, lookL, h'] at ih ⊢
        rw [ih]
theorem put_length (k : Int) (s : St) (ck : Nat) : ∀ L, (putL k s ck L).length ≤ L.length + 1
  | [] => by simp [putL]
  | x :: L => by
    have := put_length k s ck L
    by_cases h : x.1 = k
    · simp [putL, h]
    · simp [putL, h]; exact this

theorem find_look (k : Int) : ∀ (L : List (Int × St × Nat)) (i : Nat), Instr.findNow (.int .u32) (.int .u32 k) (L.map toE) i = some ((idxL k L).bind fun j => (lookL k L).map fun s => (i + j, acV s))
  | [], i => rfl
  | x :: L, i => by
    have ih := find_look k L (i + 1)
    simp only [List.map_cons, Instr.findNow, toE, Instr.sameNow, if_true]
    by_cases h : x.1 = k
    · simp [idxL, lookL, h]
    · have hb : (k == x.1) = false := by simp; exact fun e => h e.symm
      simp only [hb, idxL, lookL, h, if_false]
      rw [ih]
      cases idxL k L with
      | none => rfl
      | some j =>
        cases lookL k L with
        | none => rfl
        | some s => simp; omega

theorem idx_look (k : Int) : ∀ L, (idxL k L).isSome = (lookL k L).isSome
  | [] => rfl
  | x :: L => by
    by_cases h : x.1 = k
    · simp [idxL, lookL, h]
    · simp only [idxL, lookL, h, if_false, Option.isSome_map]; exact idx_look k L

theorem idx_at (k : Int) : ∀ (L : List (Int × St × Nat)) (j : Nat), idxL k L = some j → ∃ x, L[j]? = some x ∧ x.1 = k
  | [], j, h => by cases h
  | x :: L, j, h => by
    by_cases hx : x.1 = k
    · simp only [idxL, hx, if_true] at h
      cases h
      exact ⟨x, rfl, hx⟩
    · simp only [idxL, hx, if_false, Option.map_eq_some_iff] at h
      obtain ⟨i, hi, rfl⟩ := h
      obtain ⟨y, hy, hk⟩ := idx_at k L i hi
      exact ⟨y, by simpa using hy, hk⟩

theorem put_modify (k : Int) (s : St) (ck : Nat) : ∀ (L : List (Int × St × Nat)) (j : Nat), idxL k L = some j →
    (L.map toE).modify j (fun e => { e with key := .int .u32 k, val := acV s }) = (putL k s ck L).map toE
  | [], j, h => by cases h
  | x :: L, j, h => by
    by_cases hx : x.1 = k
    · simp only [idxL, hx, if_true] at h
      cases h
      simp [putL, hx, toE]
    · simp only [idxL, hx, if_false, Option.map_eq_some_iff] at h
      obtain ⟨i, hi, rfl⟩ := h
      have ih := put_modify k s ck L i hi
      simp only [putL, hx, if_false, List.map_cons, List.modify_succ_cons, ih]

theorem put_push (k : Int) (s : St) (ck : Nat) : ∀ (L : List (Int × St × Nat)), idxL k L = none → L.map toE ++ [⟨.int .u32 k, acV s, ck⟩] = (putL k s ck L).map toE
  | [], _ => rfl
  | x :: L, h => by
    by_cases hx : x.1 = k
    · simp only [idxL, hx, if_true] at h; cases h
    · simp only [idxL, hx, if_false, Option.map_eq_none_iff] at h
      have ih := put_push k s ck L h
      simp only [putL, hx, if_false, List.map_cons, List.cons_append, ih]

/-- Block r is the map with these entries. -/
def MapAt (r : Nat) (L : List (Int × St × Nat)) (ck : Nat) (w : World) : Prop := w.heap[r]? = some (.map (L.map toE).toArray ck)
def setMap (w : World) (r : Nat) (es : Array MapEntry) (ck : Nat) : World := { w with heap := w.heap.setIfInBounds r (.map es ck) }

theorem run_look (r ck : Nat) (L : List (Int × St × Nat)) (k : Int) (w : World) (h : MapAt r L ck w) :
    (Instr.lookup 65 (.map (some r)) (.int .u32 k) true).run Ybad.prog w = .ok (.tuple #[acV ((lookL k L).getD stZ), .bool (lookL k L).isSome]) w := by
  have hf := find_look k L 0
  have hc : ∀ b, (Instr.checkKey b 10000 27 (.int .u32 k)).run Ybad.prog w = .ok () w := fun b => MapKept.run_checkKey (k := .int .u32 k) Ybad.underlying27 (by simp [MapKept.IsKey]) b 9999
  have hz : ∀ w, (zeroValue 58).run Ybad.prog w = .ok (acV stZ) w := Ybad.zeroValue58
  unfold MapAt at h
  have hi := idx_look k L
  cases hl : lookL k L with
  | none =>
    rw [hl] at hi hf
    have hix : idxL k L = none := by simpa using hi
    rw [hix] at hf
    have hf' : Instr.findNow (.int .u32) (.int .u32 k) (L.map toE) 0 = some none := hf
    simp [Instr.lookup, run_underlying Ybad.underlying65, MapKept.run_getObj_map h, hc, MapKept.run_findKey Ybad.underlying27 hf', hz, Result.andThen]
  | some t =>
    rw [hl] at hi hf
    obtain ⟨j, hj⟩ := Option.isSome_iff_exists.1 hi
    rw [hj] at hf
    have hf' : Instr.findNow (.int .u32) (.int .u32 k) (L.map toE) 0 = some (some (0 + j, acV t)) := hf
    simp [Instr.lookup, run_underlying Ybad.underlying65, MapKept.run_getObj_map h, hc, MapKept.run_findKey Ybad.underlying27 hf', Result.andThen]

def putC (k : Int) (L : List (Int × St × Nat)) (ck : Nat) : Nat := if (lookL k L).isSome then ck else ck + 1
theorem run_put (r ck : Nat) (L : List (Int × St × Nat)) (k : Int) (s : St) (w : World) (h : MapAt r L ck w) :
    (Instr.mapUpdate 65 (.map (some r)) (.int .u32 k) (acV s)).run Ybad.prog w = .ok () (setMap w r ((putL k s ck L).map toE).toArray (putC k L ck)) := by
  have hf := find_look k L 0
  have hc : ∀ b, (Instr.checkKey b 10000 27 (.int .u32 k)).run Ybad.prog w = .ok () w := fun b => MapKept.run_checkKey (k := .int .u32 k) Ybad.underlying27 (by simp [MapKept.IsKey]) b 9999
  unfold MapAt at h
  have hi := idx_look k L
  cases hl : lookL k L with
  | none =>
    rw [hl] at hi hf
    have hix : idxL k L = none := by simpa using hi
    rw [hix] at hf
    have hf' : Instr.findNow (.int .u32) (.int .u32 k) (L.map toE) 0 = some none := hf
    have hp := put_push k s ck L hix
    have hpc : putC k L ck = ck + 1 := by simp [putC, hl]
    rw [hpc]
    have hes : ((L.map toE).toArray.push ⟨.int .u32 k, acV s, ck⟩) = ((putL k s ck L).map toE).toArray := by
      rw [← hp]; simp
    simp [Instr.mapUpdate, run_underlying Ybad.underlying65, MapKept.run_getObj_map h, hc, MapKept.run_findKey Ybad.underlying27 hf', MapKept.run_setObj_map _ h, Result.andThen, setMap, ← hp]
  | some t =>
    rw [hl] at hi hf
    obtain ⟨j, hj⟩ := Option.isSome_iff_exists.1 hi
    rw [hj] at hf
    have hf' : Instr.findNow (.int .u32) (.int .u32 k) (L.map toE) 0 = some (some (j, acV t)) := by rw [hf]; simp
    obtain ⟨x, hx, hxk⟩ := idx_at k L j hj
    have hp := put_modify k s ck L j hj
    have hpc : putC k L ck = ck := by simp [putC, hl]
    rw [hpc]
    have hkey : ((L.map toE).toArray[j]?.map (·.key)).getD (.int .u32 k) = .int .u32 k := by
      simp [hx, toE, hxk]
    have hstay : (Instr.keyThatStays (((L.map toE).toArray[j]?.map (·.key)).getD (.int .u32 k)) (.int .u32 k)).run Ybad.prog w = .ok (.int .u32 k) w := by
      rw [hkey]; simp [Instr.keyThatStays, Instr.sameBits]
    have hes : ((L.map toE).toArray.modify j fun e => { e with key := .int .u32 k, val := acV s }) = ((putL k s ck L).map toE).toArray := by
      rw [← hp, List.modify_toArray]
    simp only [Instr.mapUpdate, Sem.run_bind, run_underlying Ybad.underlying65, MapKept.run_getObj_map h, hc, MapKept.run_findKey Ybad.underlying27 hf', MapKept.run_setObj_map _ h, Result.andThen, setMap, hstay, hes]

theorem setMap_at (w : World) (r ck ck' : Nat) (L L' : List (Int × St × Nat)) (h : MapAt r L ck w) : MapAt r L' ck' (setMap w r (L'.map toE).toArray ck') := by
  have hlt := heap_lt h
  unfold MapAt setMap
  simp [hlt]
theorem Grew.setMap {S : Nat → Prop} {x y : World} (h : Grew S x y) (r : Nat) (hr : r < x.heap.size → S r) (es : Array MapEntry) (ck : Nat) : Grew S x (setMap y r es ck) :=
  ⟨h.os, h.tape, h.output, by show x.heap.size ≤ (y.heap.setIfInBounds r _).size; simp; exact h.size, fun i hi hs => by
    have hne : r ≠ i := fun e => hs (by subst e; exact hr hi)
    show (y.heap.setIfInBounds r _)[i]? = _
    rw [Array.getElem?_setIfInBounds_ne hne]; exact h.block i hi hs⟩
theorem MapAt.grew {S : Nat → Prop} {r ck : Nat} {L : List (Int × St × Nat)} {w w' : World} (h : MapAt r L ck w) (g : Grew S w w') (hb : ¬ S r) : MapAt r L ck w' := (g.block r (heap_lt h) hb).trans h

end Go.Proofs.YbulkcyuwDoor
