/-
  THE OTHER LAW's SOURCE: Read (89).
-/
import Derived.Test.YbulkcyvkFmtRead
import Derived.Test.YbulkcyvkFmtNew
namespace Go.Proofs.YbulkcyvkFmt
open Go.RowKit

/-- 'cs' laid over the row from 'off' on. -/
def putF (G : Nat → Value) (off : Nat) (cs : List Value) : Nat → Value := fun i => if off ≤ i ∧ i < off + cs.length then cs.getD (i - off) (.bool false) else G i

/-- 'copy' into a row of whatever type, as one step of a region that draws its order. -/
theorem step_copy_row (w : World) {ops : Array Oper} {o : Oper} {a : Act} {K : Act → World → Prop} {Q : Exit → Act → World → Prop} {E : Prop} (hgd : o.guard = none) (d s : Operand)
    (ho : o.op = .call { callee := .builtin .copy, args := #[d, s], argTypes := #[22, 22] }) (g off dLen dCap : Nat) (ad : Addr) (sLen sCap : Nat) (hd : a.eval d = .slice (some ⟨g, off, none⟩) dLen dCap) (hs : a.eval s = .slice (some ad) sLen sCap)
    {t : TypeId} {n : Nat} {G : Nat → Value} (hg : w.rowIs g t n G) (cs : List Value) (hn : cs.length = Nat.min sLen dLen) (hsrc : ∀ j v, cs[j]? = some v → w.cell? (ad.add j) = some v) (hfit : off + cs.length ≤ n) (h1 : ∀ v ∈ cs, v.oneCell' = true)
    (h : ∀ w', w'.rowIs g t n (putF G off cs) → Only (fun k => k = g) w w' → K (a.put o.dst (goInt cs.length)) w') :
    if Region.wanted o (yielded ops a.tmps) = true then Oper.wp Ybaf.prog o a w K Q else E := by
  obtain ⟨c, hb, hsz, hc⟩ := hg
  have hw : Region.wanted o (yielded ops a.tmps) = true := by simp [Region.wanted, hgd]
  rw [if_pos hw]
  have hrun := run_copy_row (P := Ybaf.prog) w 22 22 o.type 5 g off dLen dCap ad sLen sCap c t cs Ybaf.underlying22 info5 hb hn hsrc (by omega) h1
  unfold Oper.wp
  simp only [execOp, ho]
  simp [resolve, invoke, builtin, hd, hs, hrun, Result.andThen]
  refine h _ ⟨_, by simpa using setRow_heap w g _ _ t _ hb, ?_, fun i hi => ?_⟩ ⟨rfl, rfl, rfl, by simp [World.setRow], fun k hk => setRow_other w g k _ hk⟩
  · simp; omega
  · unfold putF
    simp only [List.getElem?_toArray]
    by_cases h1 : i < off
    · rw [if_neg (by omega), List.getElem?_append_left (by simp; omega), List.getElem?_take_of_lt h1]
      simpa using hc i hi
    · by_cases h2 : i < off + cs.length
      · rw [if_pos ⟨by omega, h2⟩, List.getElem?_append_right (by simp; omega), List.length_take, Nat.min_eq_left (by simp; omega), List.getElem?_append_left (by omega), List.getD_eq_getElem?_getD, List.getElem?_eq_getElem (by omega)]
        rfl
      · rw [if_neg (by omega), List.getElem?_append_right (by simp; omega), List.length_take, Nat.min_eq_left (by simp; omega), List.getElem?_append_right (by omega), List.getElem?_drop]
        rw [show off + cs.length + (i - off - cs.length) = i from by omega]
        simpa using hc i hi

def csF (da : Option Addr) (N cap : Nat) (pos : Int) : Nat → Value
  | 0 => .slice da N cap
  | _ => .int .i64 pos

structure CSrc (B S : Nat) (da : Option Addr) (N cap : Nat) (dat : Nat → Nat) (pos : Nat) (w : World) : Prop where
  row : w.rowIs S 74 2 (csF da N cap pos)
  data : ∀ i, i < N → ∃ b o, da = some ⟨b, o, none⟩ ∧ b < B ∧ w.cell? ⟨b, o + i, none⟩ = some (.int .u8 (dat i : Int))
  room : N ≤ cap ∧ cap ≤ maxLen ∧ N ≤ 65536
  old : B ≤ S
theorem CSrc.of_only {B S : Nat} {da : Option Addr} {N cap : Nat} {dat : Nat → Nat} {pos : Nat} {w w' : World} {X : Nat → Prop} (h : CSrc B S da N cap dat pos w) (o : Only X w w') (hX : ∀ j, X j → B ≤ j ∧ j ≠ S) : CSrc B S da N cap dat pos w' :=
  ⟨o.row (fun e => (hX _ e).2 rfl) h.row, fun i hi => by
    obtain ⟨b, q, e, hb, hc⟩ := h.data i hi
    exact ⟨b, q, e, hb, (o.cell (a := ⟨b, q + i, none⟩) (fun e => by have h1 : B ≤ b := (hX _ e).1; omega)).trans hc⟩, h.room, h.old⟩
theorem CSrc.drew {B S : Nat} {da : Option Addr} {N cap : Nat} {dat : Nat → Nat} {pos : Nat} {w : World} (h : CSrc B S da N cap dat pos w) : CSrc B S da N cap dat pos w.drew := ⟨h.row, h.data, h.room, h.old⟩

set_option maxHeartbeats 1000000 in
set_option maxRecDepth 100000 in
theorem csrcEnd (B S : Nat) (da : Option Addr) (N cap : Nat) (dat : Nat → Nat) (aE : Addr) (w : World) (h : CSrc B S da N cap dat N w) (g0 : w.cell? ⟨0, 0, none⟩ = some (.iface 81 (.pointer (some aE)))) (p : Value) :
    Calls Ybaf.prog 89 #[.pointer (some ⟨S, 0, none⟩), p] w fun e w' => e = .returned (.tuple #[.int .i64 0, .iface 81 (.pointer (some aE))]) ∧ Only (fun _ => False) w w' := by
  have hr := h.row
  have hN := h.room.2.2
  have a0 : w.cell? ⟨S, 0, none⟩ = some (.slice da N cap) := hr.cell (i := 0) (by omega)
  have a1 : w.cell? ⟨S, 1, none⟩ = some (.int .i64 N) := hr.cell (i := 1) (by omega)
  clear h hr
  go_enter Ybaf.func89, Ybaf.ntmps89
  go_wp2_with fail
  go_region
  go_wp2_with fail
  go_region
  go_wp2_with fail
  go_ret2
  exact ⟨rfl, (Only.refl _ w).drew.drew⟩

set_option maxHeartbeats 1000000 in
set_option maxRecDepth 100000 in
theorem csrcFirst (B S gb : Nat) (da : Option Addr) (N cap c : Nat) (dat : Nat → Nat) (H : Nat → Value) (w : World) (h : CSrc B S da N cap dat 0 w) (hH : w.rowIs gb 5 16 H) (hgB : B ≤ gb) (hN0 : 0 < N) (hc : c = min 16 N) :
    Calls Ybaf.prog 89 #[.pointer (some ⟨S, 0, none⟩), .slice (some ⟨gb, 0, none⟩) 16 16] w fun e w' =>
      e = .returned (.tuple #[.int .i64 c, .nilIface]) ∧ w'.rowIs gb 5 16 (putF H 0 (bytes dat 0 c)) ∧ CSrc B S da N cap dat c w' ∧ Only (fun j => j = gb ∨ j = S) w w' := by
  have hr := h.row
  have hN := h.room.2.2
  have hNc := h.room.1
  have hcm : cap ≤ 9223372036854775807 := h.room.2.1
  have a0 : w.cell? ⟨S, 0, none⟩ = some (.slice da N cap) := hr.cell (i := 0) (by omega)
  have a1 : w.cell? ⟨S, 1, none⟩ = some (.int .i64 0) := hr.cell (i := 1) (by omega)
  have f1 := hr.frozen 1
  have hSg : S ≠ gb := row_ne hr hH (by decide)
  obtain ⟨b, o, rfl, hbB, _⟩ := h.data 0 hN0
  have hsrc : ∀ j v, (bytes dat 0 c)[j]? = some v → w.cell? ((⟨b, o, none⟩ : Addr).add j) = some v := fun j v hj => by
    obtain ⟨hj1, rfl⟩ := bytes_get hj
    obtain ⟨b', o', e, hb', hcc⟩ := h.data j (by omega)
    simp only [Option.some.injEq, Addr.mk.injEq] at e
    obtain ⟨rfl, rfl, _⟩ := e
    rw [addr_add, Nat.zero_add]
    exact hcc
  have HSRC := hide hsrc
  have HC : Hid ((bytes dat 0 c).length = Nat.min N 16) := by
    show (bytes dat 0 c).length = Nat.min N 16
    rw [bytes_len, hc, show Nat.min N 16 = min N 16 from rfl]
    omega
  have hc16 : c ≤ 16 := by omega
  have hc1 : 1 ≤ c := by omega
  have t4 : ¬ cap = 0 := by omega
  have HH := hide h
  have HG := hide hH
  clear h hr hH hsrc hc
  go_enter Ybaf.func89, Ybaf.ntmps89
  go_wp2_with fail
  go_region
  go_wp2_with fail
  go_region_held3 (fun w' => w'.cell? ⟨S, 0, none⟩ = some (.slice (some ⟨b, o, none⟩) N cap) ∧ w'.cell? ⟨S, 1, none⟩ = some (.int .i64 0)) (first | exact ⟨a0, a1⟩ | exact ⟨(o3.cell (a := ⟨S, 0, none⟩) hSg).trans a0, (o3.cell (a := ⟨S, 1, none⟩) hSg).trans a1⟩) (first | (refine step_copy_row _ rfl (.tmp 18) (.tmp 27) rfl gb 0 _ _ ⟨b, o, none⟩ _ _ rfl rfl (by exact unhide HG) (bytes dat 0 c) (by exact unhide HC) (by exact unhide HSRC) (by rw [bytes_len]; omega) (bytes_one _ _ _) ?_; intro w3 h3 o3; rw [bytes_len]))
  have b1 : w3.cell? ⟨S, 1, none⟩ = some (.int .i64 0) := (o3.cell (a := ⟨S, 1, none⟩) hSg).trans a1
  have e1 : w3.frozen? ⟨S, 1, none⟩ = false := (World.frozen?_of_block (o3.block S hSg)).trans f1
  have H3 := hide h3
  have O3 := hide o3
  clear h3 o3
  go_wp2_with fail
  go_ret2
  have o3 : Only (fun j => j = gb ∨ j = S) w w3 := ⟨(unhide O3).os, (unhide O3).tape, (unhide O3).output, (unhide O3).size, fun k hk => (unhide O3).block k (fun e => hk (.inl e))⟩
  have hs := unhide HH
  have r3 := hs.row.of_block ((unhide O3).block S hSg)
  refine ⟨rfl, (unhide H3).setOther (a := ⟨S, 1, none⟩) (Ne.symm hSg) _, ⟨(row_set r3 1 _).congr ?_, ?_, hs.room, hs.old⟩, o3.setCell (a := ⟨S, 1, none⟩) (.inr rfl) _⟩
  · intro i hi
    match i, hi with
    | 0, _ => rfl
    | 1, _ => rfl
  · intro i hi
    obtain ⟨b', o', e, hb', hcc⟩ := hs.data i hi
    have hS1 := hs.old
    exact ⟨b', o', e, hb', ((o3.setCell (a := ⟨S, 1, none⟩) (.inr rfl) _).cell (a := ⟨b', o' + i, none⟩) (by
      show ¬ (b' = gb ∨ b' = S)
      omega)).trans hcc⟩
end Go.Proofs.YbulkcyvkFmt
