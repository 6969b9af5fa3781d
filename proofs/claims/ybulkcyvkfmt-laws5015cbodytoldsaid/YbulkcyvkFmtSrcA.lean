/-
  THE LAW's SOURCE: Read (69).
-/
import Derived.Test.YbulkcyvkFmtBase
namespace Go.Proofs.YbulkcyvkFmt
open Go.RowKit

theorem wrap64 (x : Int) (h0 : -4611686018427387904 ≤ x) (h1 : x < 4611686018427387904) : IntKind.i64.wrap x = x := by
  simp [IntKind.wrap, IntKind.bits, IntKind.signed]
  omega

def srcF (da : Option Addr) (N cap : Nat) (pos k : Int) (en : Value) : Nat → Value
  | 0 => .slice da N cap
  | 1 => .int .i64 pos
  | 2 => .int .i64 k
  | _ => en
/-- The source at pos: what it holds lies below B. -/
structure Src (B S : Nat) (da : Option Addr) (N cap k : Nat) (dat : Nat → Nat) (en : Value) (pos : Nat) (w : World) : Prop where
  row : w.rowIs S 28 4 (srcF da N cap pos k en)
  data : ∀ i, i < N → ∃ b o, da = some ⟨b, o, none⟩ ∧ b < B ∧ w.cell? ⟨b, o + i, none⟩ = some (.int .u8 (dat i : Int))
  k1 : 1 ≤ k ∧ k ≤ 7
  pos : pos ≤ N
  room : N ≤ cap ∧ cap ≤ maxLen ∧ N ≤ 65536
  old : B ≤ S
theorem Src.of_only {B S : Nat} {da : Option Addr} {N cap k : Nat} {dat : Nat → Nat} {en : Value} {pos : Nat} {w w' : World} {X : Nat → Prop} (h : Src B S da N cap k dat en pos w) (o : Only X w w') (hX : ∀ j, X j → B ≤ j ∧ j ≠ S) : Src B S da N cap k dat en pos w' :=
  ⟨o.row (fun e => (hX _ e).2 rfl) h.row, fun i hi => by
    obtain ⟨b, q, e, hb, hc⟩ := h.data i hi
    exact ⟨b, q, e, hb, (o.cell (a := ⟨b, q + i, none⟩) (fun e => by have h1 : B ≤ b := (hX _ e).1; omega)).trans hc⟩, h.k1, h.pos, h.room, h.old⟩

set_option maxHeartbeats 1000000 in
set_option maxRecDepth 100000 in
theorem srcRead (B S : Nat) (da : Option Addr) (N cap k : Nat) (dat : Nat → Nat) (en : Value) (pos : Nat) (w : World) (h : Src B S da N cap k dat en pos w)
    (g off l lcap : Nat) (cur : List Value) (hg : Oct g cur w) (hgB : B ≤ g) (hl : 0 < l) (hl2 : l ≤ lcap ∧ lcap ≤ maxLen) (hfit : off + l ≤ cur.length) :
    Calls Ybaf.prog 69 #[.pointer (some ⟨S, 0, none⟩), .slice (some ⟨g, off, none⟩) l lcap] w fun e w' =>
      (pos = N ∧ e = .returned (.tuple #[.int .i64 0, en]) ∧ Only (fun _ => False) w w') ∨
      (pos < N ∧ ∃ c, 1 ≤ c ∧ c ≤ l ∧ c ≤ 7 ∧ e = .returned (.tuple #[.int .i64 c, .nilIface]) ∧ Oct g (splice cur off (bytes dat pos c)) w' ∧ Src B S da N cap k dat en (pos + c) w' ∧ Only (fun j => j = g ∨ j = S) w w') := by
  have hr := h.row
  have hk1 := h.k1.1
  have hk7 := h.k1.2
  have hN := h.room.2.2
  have hNc := h.room.1
  have hcm := h.room.2.1
  have a0 : w.cell? ⟨S, 0, none⟩ = some (.slice da N cap) := hr.cell (i := 0) (by omega)
  have a1 : w.cell? ⟨S, 1, none⟩ = some (.int .i64 pos) := hr.cell (i := 1) (by omega)
  have a2 : w.cell? ⟨S, 2, none⟩ = some (.int .i64 k) := hr.cell (i := 2) (by omega)
  have a3 : w.cell? ⟨S, 3, none⟩ = some en := hr.cell (i := 3) (by omega)
  have hSg : S ≠ g := hg.ne hr (by decide)
  have hgS := Ne.symm hSg
  have f1 := hr.frozen 1
  have hl3 := hl2.1
  have hl4 : lcap ≤ 9223372036854775807 := hl2.2
  have hcm : cap ≤ 9223372036854775807 := hcm
  clear hl2
  by_cases hp : pos = N
  · subst hp
    clear h hr hg
    go_enter Ybaf.func69, Ybaf.ntmps69
    go_wp2_with fail
    go_region
    go_wp2_with fail
    go_region
    go_wp2_with fail
    go_ret2
    exact .inl ⟨trivial, rfl, (Only.refl _ w).drew.drew⟩
  · have hpN := h.pos
    have hlt : pos < N := by omega
    have HH := hide h
    have HG := hide hg
    clear h hr hg
    go_enter Ybaf.func69, Ybaf.ntmps69
    go_wp2_with fail
    go_region
    go_wp2_with fail
    go_region
    go_upto_if 36 with fail
    go_cut [6] from 31 to 40 (fun s wx => ∃ c : Nat, 1 ≤ c ∧ c ≤ 7 ∧ pos + c ≤ N ∧ s = .int .i64 c ∧ w.drew.drew = wx)
    case first =>
      go_wp2_with fail
      · go_meet
        case rel => exact ⟨k, by omega, by omega, by omega, rfl, rfl⟩
      · go_meet
        case rel => exact ⟨N - pos, by omega, by omega, by omega, by congr 1; omega, rfl⟩
    case rest =>
      obtain ⟨c1, hc1, hc7, hcN, rfl, rfl⟩ := hcut
      clear hk1 hk7 a2
      go_upto_if 44 with fail
      go_cut [6] from 41 to 46 (fun s wx => ∃ c : Nat, 1 ≤ c ∧ c ≤ 7 ∧ pos + c ≤ N ∧ c ≤ l ∧ s = .int .i64 c ∧ w.drew.drew = wx)
      case first =>
        go_wp2_with fail
        · go_meet
          case rel => exact ⟨l, by omega, by omega, by omega, by omega, rfl, rfl⟩
        · go_meet
          case rel => exact ⟨c1, by omega, by omega, by omega, by omega, rfl, rfl⟩
      case rest =>
        clear hc1 hc7 hcN
        obtain ⟨c, hc1, hc7, hcN, hcl, rfl, rfl⟩ := hcut
        obtain ⟨b, o, rfl, hbB, _⟩ := (unhide HH).data pos hlt
        have hsrc : ∀ j v, (bytes dat pos c)[j]? = some v → w.cell? ((⟨b, o + pos, none⟩ : Addr).add j) = some v := fun j v hj => by
          obtain ⟨hj1, rfl⟩ := bytes_get hj
          obtain ⟨b', o', e, hb', hcc⟩ := (unhide HH).data (pos + j) (by omega)
          simp only [Option.some.injEq, Addr.mk.injEq] at e
          obtain ⟨rfl, rfl, _⟩ := e
          rw [addr_add, Nat.add_assoc]
          exact hcc
        have HSRC := hide hsrc
        clear hsrc
        have t1 : c ≤ lcap := by omega
        obtain ⟨q, hq⟩ : ∃ q, q = pos + c := ⟨_, rfl⟩
        have t2 : q ≤ cap := by omega
        have t3 : pos ≤ q := by omega
        have t4 : ¬ cap = pos := by omega
        have t5 : q - pos = c := by omega
        have t6 : IntKind.i64.wrap ((pos : Int) + (c : Int)) = (q : Int) := by rw [wrap64 _ (by omega) (by omega)]; omega
        have HQ := hide hq
        clear hq
        go_wp2_with fail
        go_region_law (refine step_copy_only _ rfl (.tmp 49) (.tmp 64) rfl g off _ _ ⟨b, o + pos, none⟩ _ _ rfl rfl cur (bytes dat pos c) (by exact unhide HG) (by simp [bytes_len]) (by exact unhide HSRC) (by rw [bytes_len]; omega) (bytes_one _ _ _) ?_; intro w3 h3 o3; have b1 : w3.cell? ⟨S, 1, none⟩ = some (.int .i64 pos) := (o3.cell (a := ⟨S, 1, none⟩) hSg).trans a1; have e1 : w3.frozen? ⟨S, 1, none⟩ = false := (World.frozen?_of_block (o3.block S hSg)).trans f1; have H3 := hide h3; have O3 := hide o3; clear h3 o3)
        all_goals
          go_wp2_with fail
          go_ret2
          have o3 : Only (fun j => j = g ∨ j = S) w w3 := ⟨(unhide O3).os, (unhide O3).tape, (unhide O3).output, (unhide O3).size, fun k hk => (unhide O3).block k (fun e => hk (.inl e))⟩
          have hs := unhide HH
          have hqe := unhide HQ
          subst hqe
          have r3 := hs.row.of_block ((unhide O3).block S hSg)
          refine .inr ⟨hlt, c, hc1, hcl, hc7, rfl, (unhide H3).of_block (Below.heap_setCell _ _ _ _ hgS), ⟨(row_set r3 1 _).congr ?_, ?_, hs.k1, hcN, hs.room, hs.old⟩, o3.setCell (a := ⟨S, 1, none⟩) (.inr rfl) _⟩
          · intro i hi
            match i, hi with
            | 0, _ => rfl
            | 1, _ => rfl
            | 2, _ => rfl
            | 3, _ => rfl
          · intro i hi
            obtain ⟨b', o', e, hb', hcc⟩ := hs.data i hi
            have hS1 := hs.old
            exact ⟨b', o', e, hb', ((o3.setCell (a := ⟨S, 1, none⟩) (.inr rfl) _).cell (a := ⟨b', o' + i, none⟩) (by
              show ¬ (b' = g ∨ b' = S)
              omega)).trans hcc⟩
end Go.Proofs.YbulkcyvkFmt
