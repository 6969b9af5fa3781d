/-
  bufio.Reader: readErr (40), Read (71), over the law's source.
-/
import Derived.Test.YbulkcyvkFmtSrcA
import Derived.BigQuiet
import Derived.BigRegion
import Derived.Deep.RegionHeld3
namespace Go.Proofs.YbulkcyvkFmt
open Go.RowKit

def bufF (gb S : Nat) (r wp : Int) (er : Value) (lb lr : Value) : Nat → Value
  | 0 => .slice (some ⟨gb, 0, none⟩) 16 16
  | 1 => .iface 26 (.pointer (some ⟨S, 0, none⟩))
  | 2 => .int .i64 r
  | 3 => .int .i64 wp
  | 4 => er
  | 5 => lb
  | _ => lr
/-- The reader: m octets have been handed out; wp - r lie in its buffer. -/
structure Bst (B R gb S : Nat) (da : Option Addr) (N cap k : Nat) (dat : Nat → Nat) (ae : Addr) (m r wp : Nat) (cb : List Value) (w : World) : Prop where
  row : ∃ F, w.rowIs R 88 7 F ∧ F 0 = .slice (some ⟨gb, 0, none⟩) 16 16 ∧ F 1 = .iface 26 (.pointer (some ⟨S, 0, none⟩)) ∧ F 2 = .int .i64 r ∧ F 3 = .int .i64 wp ∧ F 4 = .nilIface
  buf : Oct gb cb w
  len : cb.length = 16
  ord : r ≤ wp ∧ wp ≤ 16
  con : ∀ i, i < wp - r → cb[r + i]? = some (.int .u8 (dat (m + i) : Int))
  src : Src B S da N cap k dat (.iface 81 (.pointer (some ae))) (m + (wp - r)) w
  old : B ≤ R ∧ B ≤ gb

@[go_sem] theorem methodRead26 (v : Value) (w : World) : (Go.method 368 26 v "Read").run Ybaf.prog w = .ok (69, v) w := by kernel_rfl

set_option maxRecDepth 100000 in
theorem readErr (R : Nat) (er : Value) (w : World) (h : w.cell? ⟨R, 4, none⟩ = some er) (hf : w.frozen? ⟨R, 4, none⟩ = false) :
    Calls Ybaf.prog 40 #[.pointer (some ⟨R, 0, none⟩)] w fun e w' => e = .returned er ∧ w.setCell ⟨R, 4, none⟩ .nilIface = w' := by
  go_enter Ybaf.func40, Ybaf.ntmps40
  go_wp2
  go_ret
  exact ⟨rfl, rfl⟩

theorem splice_at {cur cs : List Value} {off j : Nat} (hfit : off + cs.length ≤ cur.length) (hj : j < cs.length) : (splice cur off cs)[off + j]? = cs[j]? := by
  unfold splice
  rw [List.getElem?_append_right (by rw [List.length_take]; omega), List.length_take, Nat.min_eq_left (by omega), Nat.add_sub_cancel_left, List.getElem?_append_left hj]
theorem splice_nil (cur : List Value) (off : Nat) : splice cur off [] = cur := by simp [splice]

theorem Src.drew {B S : Nat} {da : Option Addr} {N cap k : Nat} {dat : Nat → Nat} {en : Value} {pos : Nat} {w : World} (h : Src B S da N cap k dat en pos w) : Src B S da N cap k dat en pos w.drew := ⟨h.row, h.data, h.k1, h.pos, h.room, h.old⟩
theorem Bst.of_only {B R gb S : Nat} {da : Option Addr} {N cap k : Nat} {dat : Nat → Nat} {ae : Addr} {m r wp : Nat} {cb : List Value} {w w' : World} {X : Nat → Prop} (h : Bst B R gb S da N cap k dat ae m r wp cb w) (o : Only X w w') (hX : ∀ j, X j → B ≤ j ∧ j ≠ S ∧ j ≠ R ∧ j ≠ gb) : Bst B R gb S da N cap k dat ae m r wp cb w' := by
  obtain ⟨F, hr, h2⟩ := h.row
  exact ⟨⟨F, o.row (fun e => (hX _ e).2.2.1 rfl) hr, h2⟩, h.buf.of_block (o.block gb (fun e => (hX _ e).2.2.2 rfl)), h.len, h.ord, h.con, h.src.of_only o (fun j e => ⟨(hX j e).1, (hX j e).2.1⟩), h.old⟩
theorem Bst.drew {B R gb S : Nat} {da : Option Addr} {N cap k : Nat} {dat : Nat → Nat} {ae : Addr} {m r wp : Nat} {cb : List Value} {w : World} (h : Bst B R gb S da N cap k dat ae m r wp cb w) : Bst B R gb S da N cap k dat ae m r wp cb w.drew := ⟨h.row, h.buf, h.len, h.ord, h.con, h.src.drew, h.old⟩

theorem srcEnd (B S : Nat) (da : Option Addr) (N cap k : Nat) (dat : Nat → Nat) (en : Value) (w : World) (h : Src B S da N cap k dat en N w)
    (g off l lcap : Nat) (cur : List Value) (hg : Oct g cur w) (hgB : B ≤ g) (hl : 0 < l) (hl2 : l ≤ lcap) (hl3 : lcap ≤ 9223372036854775807) (hfit : off + l ≤ cur.length) :
    Calls Ybaf.prog 69 #[.pointer (some ⟨S, 0, none⟩), .slice (some ⟨g, off, none⟩) l lcap] w fun e w' => e = .returned (.tuple #[.int .i64 0, en]) ∧ Only (fun _ => False) w w' :=
  (srcRead B S da N cap k dat en N w h g off l lcap cur hg hgB hl ⟨hl2, hl3⟩ hfit).mono fun e w' hh => by
    rcases hh with ⟨_, h1, h2⟩ | ⟨h1, _⟩
    · exact ⟨h1, h2⟩
    · omega
theorem srcMore (B S : Nat) (da : Option Addr) (N cap k : Nat) (dat : Nat → Nat) (en : Value) (pos : Nat) (w : World) (h : Src B S da N cap k dat en pos w) (hp : pos < N)
    (g off l lcap : Nat) (cur : List Value) (hg : Oct g cur w) (hgB : B ≤ g) (hl : 0 < l) (hl2 : l ≤ lcap) (hl3 : lcap ≤ 9223372036854775807) (hfit : off + l ≤ cur.length) :
    Calls Ybaf.prog 69 #[.pointer (some ⟨S, 0, none⟩), .slice (some ⟨g, off, none⟩) l lcap] w fun e w' =>
      ∃ c, c + 1 ≤ l ∧ c ≤ 6 ∧ pos + (c + 1) ≤ N ∧ e = .returned (.tuple #[.int .i64 ((c : Int) + 1), .nilIface]) ∧ Oct g (splice cur off (bytes dat pos (c + 1))) w' ∧ Src B S da N cap k dat en (pos + (c + 1)) w' ∧ Only (fun j => j = g ∨ j = S) w w' :=
  (srcRead B S da N cap k dat en pos w h g off l lcap cur hg hgB hl ⟨hl2, hl3⟩ hfit).mono fun e w' hh => by
    rcases hh with ⟨h1, _⟩ | ⟨_, c, c1, c2, c7, h1, h2, h3, h4⟩
    · omega
    · obtain ⟨c', rfl⟩ : ∃ c', c = c' + 1 := ⟨c - 1, by omega⟩
      exact ⟨c', c2, by omega, h3.pos, by rw [h1]; simp, h2, h3, h4⟩

/-- What bufio's Read leaves. -/
def ReadPost (B R gb S : Nat) (da : Option Addr) (N cap k : Nat) (dat : Nat → Nat) (ae : Addr) (m g off l : Nat) (cur : List Value) (w : World) (e : Ending) (w' : World) : Prop :=
  (m = N ∧ e = .returned (.tuple #[.int .i64 0, .iface 81 (.pointer (some ae))]) ∧ Oct g cur w' ∧ (∃ r wp cb, Bst B R gb S da N cap k dat ae m r wp cb w') ∧ Only (fun j => j = g ∨ j = S ∨ j = R ∨ j = gb) w w') ∨
  (m < N ∧ ∃ c, 1 ≤ c ∧ c ≤ l ∧ m + c ≤ N ∧ e = .returned (.tuple #[.int .i64 c, .nilIface]) ∧ Oct g (splice cur off (bytes dat m c)) w' ∧ (∃ r wp cb, Bst B R gb S da N cap k dat ae (m + c) r wp cb w') ∧ Only (fun j => j = g ∨ j = S ∨ j = R ∨ j = gb) w w')

set_option maxHeartbeats 2000000 in
set_option maxRecDepth 100000 in
theorem bufRead (B R gb S : Nat) (da : Option Addr) (N cap k : Nat) (dat : Nat → Nat) (ae : Addr) (m r wp : Nat) (cb : List Value) (w : World) (h : Bst B R gb S da N cap k dat ae m r wp cb w)
    (g off l lcap : Nat) (cur : List Value) (hg : Oct g cur w) (hgB : B ≤ g) (hgb : g ≠ gb) (hl : 0 < l) (hl2 : l ≤ lcap ∧ lcap ≤ maxLen) (hfit : off + l ≤ cur.length) :
    Calls Ybaf.prog 71 #[.pointer (some ⟨R, 0, none⟩), .slice (some ⟨g, off, none⟩) l lcap] w fun e w' => ReadPost B R gb S da N cap k dat ae m g off l cur w e w' := by
  obtain ⟨F, hr, F0, F1, F2, F3, F4⟩ := h.row
  have hlen := h.len
  have hord := h.ord
  have hro := hord.1
  have hwo := hord.2
  have hold := h.old
  have hRg : R ≠ g := hg.ne hr (by decide)
  have hRb : R ≠ gb := h.buf.ne hr (by decide)
  have hSg : S ≠ g := hg.ne h.src.row (by decide)
  have hSb : S ≠ gb := h.buf.ne h.src.row (by decide)
  have hRS : R ≠ S := row_ne hr h.src.row (by decide)
  have hl3 := hl2.1
  have hl4 : lcap ≤ 9223372036854775807 := hl2.2
  clear hl2
  have x0 : w.cell? ⟨R, 0, none⟩ = some (.slice (some ⟨gb, 0, none⟩) 16 16) := by rw [hr.cell (by omega), F0]
  have x1 : w.cell? ⟨R, 1, none⟩ = some (.iface 26 (.pointer (some ⟨S, 0, none⟩))) := by rw [hr.cell (by omega), F1]
  have x2 : w.cell? ⟨R, 2, none⟩ = some (.int .i64 r) := by rw [hr.cell (by omega), F2]
  have x3 : w.cell? ⟨R, 3, none⟩ = some (.int .i64 wp) := by rw [hr.cell (by omega), F3]
  have x4 : w.cell? ⟨R, 4, none⟩ = some .nilIface := by rw [hr.cell (by omega), F4]
  have x5 := hr.cell (i := 5) (by omega)
  have x6 := hr.cell (i := 6) (by omega)
  have z5 := hr.frozen 5
  have z6 := hr.frozen 6
  have z2 := hr.frozen 2
  have z3 := hr.frozen 3
  have z4 := hr.frozen 4
  have HH := hide h
  have HG := hide hg
  have HR := hide hr
  have HF2 : Hid (F 2 = .int .i64 r ∧ F 3 = .int .i64 wp) := ⟨F2, F3⟩
  have HF : Hid (F 0 = .slice (some ⟨gb, 0, none⟩) 16 16 ∧ F 1 = .iface 26 (.pointer (some ⟨S, 0, none⟩)) ∧ F 4 = .nilIface) := ⟨F0, F1, F4⟩
  clear h hg hr F0 F1 F2 F3 F4
  go_enter Ybaf.func71, Ybaf.ntmps71
  go_wp2_with fail
  go_region
  go_upto_if 23 with fail
  go_cut [4, 5] from 6 to 108 (fun _ _ wx => ∃ r wp cb, r < wp ∧ Bst B R gb S da N cap k dat ae m r wp cb wx ∧ Oct g cur wx ∧ Only (fun j => j = g ∨ j = S ∨ j = R ∨ j = gb) w wx)
  case first =>
    by_cases hrw : r < wp
    · go_wp2_with fail
      go_meet
      case rel => exact ⟨r, wp, cb, hrw, (unhide HH).drew, unhide HG, (Only.refl _ w).drew⟩
    · obtain rfl : r = wp := by omega
      have hsrc := (unhide HH).src
      rw [Nat.sub_self, Nat.add_zero] at hsrc
      have HS := hide hsrc
      clear hsrc
      by_cases h16 : 16 ≤ l
      · by_cases hmN : m = N
        · subst hmN
          go_wp2_with (first
            | (go_at_call 69; refine (srcEnd B S da m cap k dat _ _ (by exact (unhide HS).drew) g off l lcap cur (by exact unhide HG) hgB hl hl3 hl4 hfit).mono ?_; rintro e w1 ⟨rfl, o1⟩
               have y4 : w1.cell? ⟨R, 4, none⟩ = some .nilIface := (o1.cell (a := ⟨R, 4, none⟩) (fun e => e)).trans x4
               have q4 : w1.frozen? ⟨R, 4, none⟩ = false := (World.frozen?_of_block (o1.block R (fun e => e))).trans z4
               have O1 := hide o1; clear o1)
            | (go_at_call 40; refine (readErr R _ _ (by simp [go_sem, y4]; rfl) (by simp [go_sem, q4])).mono ?_; rintro e w2 ⟨rfl, rfl⟩))
          go_ret2
          obtain ⟨F0, F1, F4⟩ := unhide HF
          have o1 : Only (fun j => j = g ∨ j = S ∨ j = R ∨ j = gb) w w1 := ⟨(unhide O1).os, (unhide O1).tape, (unhide O1).output, (unhide O1).size, fun k _ => (unhide O1).block k (fun e => e)⟩
          have r1 := (unhide HR).of_block ((unhide O1).block R (fun e => e))
          have o3 := (o1.setCell (a := ⟨R, 4, none⟩) (.inr (.inr (.inl rfl))) (.iface 81 (.pointer (some ae)))).setCell (a := ⟨R, 4, none⟩) (.inr (.inr (.inl rfl))) .nilIface
          have hsame : ∀ b, b ≠ R → ((w1.setCell ⟨R, 4, none⟩ (.iface 81 (.pointer (some ae)))).setCell ⟨R, 4, none⟩ .nilIface).heap[b]? = w.heap[b]? := fun b hb => by
            rw [Below.heap_setCell _ _ _ _ hb, Below.heap_setCell _ _ _ _ hb]
            exact (unhide O1).block b (fun e => e)
          refine .inl ⟨rfl, rfl, (unhide HG).of_block (hsame g (Ne.symm hRg)), ⟨r, r, cb, ⟨_, row_set (row_set r1 4 _) 4 _, by simp [upd, F0], by simp [upd, F1], ?_, ?_, by simp [upd]⟩, (unhide HH).buf.of_block (hsame gb (Ne.symm hRb)), hlen, hord, (unhide HH).con, ?_, hold⟩, o3⟩
          · simp [upd]; exact (unhide HF2).1
          · simp [upd]; exact (unhide HF2).2
          · rw [Nat.sub_self, Nat.add_zero]
            exact (unhide HS).of_only (w' := (w1.setCell ⟨R, 4, none⟩ (.iface 81 (.pointer (some ae)))).setCell ⟨R, 4, none⟩ .nilIface) (X := fun j => j = R) ⟨o3.os, o3.tape, o3.output, o3.size, fun b hb => hsame b hb⟩ (fun j e => ⟨by omega, by omega⟩)
        · have hm2 : m < N := by have := (unhide HS).pos; omega
          go_wp2_with (first
            | (go_at_call 69; refine (srcMore B S da N cap k dat _ m _ (by exact (unhide HS).drew) hm2 g off l lcap cur (by exact unhide HG) hgB hl hl3 hl4 hfit).mono ?_; rintro e w1 ⟨c, c1, c2, c3, rfl, og, hs, o1⟩
               have nR : ¬ (R = g ∨ R = S) := (by omega)
               have y4 : w1.cell? ⟨R, 4, none⟩ = some .nilIface := (o1.cell (a := ⟨R, 4, none⟩) nR).trans x4
               have y5 : w1.cell? ⟨R, 5, none⟩ = some (F 5) := (o1.cell (a := ⟨R, 5, none⟩) nR).trans x5
               have y6 : w1.cell? ⟨R, 6, none⟩ = some (F 6) := (o1.cell (a := ⟨R, 6, none⟩) nR).trans x6
               have q4 : w1.frozen? ⟨R, 4, none⟩ = false := (World.frozen?_of_block (o1.block R nR)).trans z4
               have q5 : w1.frozen? ⟨R, 5, none⟩ = false := (World.frozen?_of_block (o1.block R nR)).trans z5
               have q6 : w1.frozen? ⟨R, 6, none⟩ = false := (World.frozen?_of_block (o1.block R nR)).trans z6
               have yg : w1.cell? ⟨g, off + c, none⟩ = some (.int .u8 (dat (m + c) : Int)) := (by rw [og.cell, splice_at (by rw [bytes_len]; omega) (by rw [bytes_len]; omega), bytes_at _ _ _ _ (by omega)])
               have hcl : c < l := (by omega)
               have O1 := hide o1; have OG := hide og; have HS1 := hide hs; clear o1 og hs nR)
            | (go_at_call 40; refine (readErr R _ _ (by simp [go_sem, y4]; rfl) (by simp [go_sem, q4])).mono ?_; rintro e w2 ⟨rfl, rfl⟩))
          go_ret2
          obtain ⟨F0, F1, F4⟩ := unhide HF
          have o1 := unhide O1
          have nR : ¬ (R = g ∨ R = S) := by omega
          have r1 := (unhide HR).of_block (o1.block R nR)
          have oR := ((((Only.refl (fun j => j = R) w1).setCell (a := ⟨R, 4, none⟩) rfl .nilIface).setCell (a := ⟨R, 5, none⟩) rfl (.int .i64 (RowKit.wrap64 (dat (m + c))))).setCell (a := ⟨R, 6, none⟩) rfl (.int .i64 (-1))).setCell (a := ⟨R, 4, none⟩) rfl .nilIface
          refine .inr ⟨hm2, c + 1, by omega, c1, c3, by simp, (unhide OG).of_block (oR.block g (Ne.symm hRg)), ⟨r, r, cb, ⟨_, row_set (row_set (row_set (row_set r1 4 _) 5 _) 6 _) 4 _, by simp [upd, F0], by simp [upd, F1], by simp [upd]; exact (unhide HF2).1, by simp [upd]; exact (unhide HF2).2, by simp [upd]⟩,
            ((unhide HH).buf.of_block (o1.block gb (by omega))).of_block (oR.block gb (Ne.symm hRb)), hlen, hord, fun i hi => by omega, ?_, hold⟩, ?_⟩
          · rw [Nat.sub_self, Nat.add_zero]
            exact (unhide HS1).of_only oR (fun j e => ⟨by omega, by omega⟩)
          · exact Only.trans (y := w1) ⟨o1.os, o1.tape, o1.output, o1.size, fun b hb => o1.block b (by omega)⟩ (oR.mono (fun j e => .inr (.inr (.inl e))))
      · have o2 := ((Only.refl (fun j => j = R) w).drew.setCell (a := ⟨R, 2, none⟩) rfl (.int .i64 0)).setCell (a := ⟨R, 3, none⟩) rfl (.int .i64 0)
        have HS2 := hide ((unhide HS).of_only o2 (fun j e => ⟨by omega, by omega⟩))
        have HB2 := hide ((unhide HH).buf.of_block (o2.block gb (Ne.symm hRb)))
        have HR2 := hide (row_set (row_set (unhide HR).drew 2 (.int .i64 0)) 3 (.int .i64 0))
        have HO2 := hide o2
        clear o2
        by_cases hmN : m = N
        · subst hmN
          go_wp2_with fail
          go_region_with (first
            | (go_at_call 69; refine (srcEnd B S da m cap k dat _ _ (by exact (unhide HS2).drew) gb 0 16 16 cb (by exact unhide HB2) hold.2 (by omega) (by omega) (by omega) (by omega)).mono ?_; rintro e w1 ⟨rfl, o1⟩
               have y4 : w1.cell? ⟨R, 4, none⟩ = some .nilIface := (o1.cell (a := ⟨R, 4, none⟩) (fun e => e)).trans (by simp [go_sem, x4])
               have q4 : w1.frozen? ⟨R, 4, none⟩ = false := (World.frozen?_of_block (o1.block R (fun e => e))).trans (by simp [go_sem, z4])
               have O1 := hide o1; clear o1))
          all_goals
            go_wp2_with (go_at_call 40; refine (readErr R _ _ (by simp [go_sem, y4]; rfl) (by simp [go_sem, q4])).mono ?_; rintro e w2 ⟨rfl, rfl⟩)
            go_ret2
            obtain ⟨F0, F1, F4⟩ := unhide HF
            have o1 := unhide O1
            have r1 := (unhide HR2).of_block (o1.block R (fun e => e))
            have oR := ((Only.refl (fun j => j = R) w1).setCell (a := ⟨R, 4, none⟩) rfl (.iface 81 (.pointer (some ae)))).setCell (a := ⟨R, 4, none⟩) rfl .nilIface
            have hsame : ∀ b, b ≠ R → w1.heap[b]? = w.heap[b]? := fun b hb => (o1.block b (fun e => e)).trans ((unhide HO2).block b hb)
            refine .inl ⟨rfl, rfl, ((unhide HG).of_block (hsame g (Ne.symm hRg))).of_block (oR.block g (Ne.symm hRg)), ⟨0, 0, cb, ⟨_, row_set (row_set r1 4 _) 4 _, by simp [upd, F0], by simp [upd, F1], by simp [upd], by simp [upd], by simp [upd]⟩,
              ((unhide HB2).of_block (o1.block gb (fun e => e))).of_block (oR.block gb (Ne.symm hRb)), hlen, ⟨by omega, by omega⟩, fun i hi => by omega, ?_, hold⟩, ?_⟩
            · rw [Nat.sub_self, Nat.add_zero]
              exact ((unhide HS2).of_only (w' := w1) (X := fun _ => False) ⟨o1.os, o1.tape, o1.output, o1.size, o1.block⟩ (fun j e => e.elim)).of_only oR (fun j e => ⟨by omega, by omega⟩)
            · exact Only.trans (y := w1) ⟨o1.os.trans (unhide HO2).os, o1.tape.trans (unhide HO2).tape, o1.output.trans (unhide HO2).output, o1.size.trans (unhide HO2).size, fun b hb => hsame b (fun e => hb (.inr (.inr (.inl e))))⟩ (oR.mono (fun j e => .inr (.inr (.inl e))))
        · have hm2 : m < N := by have := (unhide HS).pos; omega
          go_wp2_with fail
          go_region_with (first
            | (go_at_call 69; refine (srcMore B S da N cap k dat _ m _ (by exact (unhide HS2).drew) hm2 gb 0 16 16 cb (by exact unhide HB2) hold.2 (by omega) (by omega) (by omega) (by omega)).mono ?_; rintro e w1 ⟨c, c1, c2, c3, rfl, og, hs, o1⟩
               have nR : ¬ (R = gb ∨ R = S) := (by omega)
               have y4 : w1.cell? ⟨R, 4, none⟩ = some .nilIface := (o1.cell (a := ⟨R, 4, none⟩) nR).trans (by simp [go_sem, x4])
               have y3 : w1.cell? ⟨R, 3, none⟩ = some (.int .i64 0) := (o1.cell (a := ⟨R, 3, none⟩) nR).trans (by simp [go_sem, x3])
               have q4 : w1.frozen? ⟨R, 4, none⟩ = false := (World.frozen?_of_block (o1.block R nR)).trans (by simp [go_sem, z4])
               have q3 : w1.frozen? ⟨R, 3, none⟩ = false := (World.frozen?_of_block (o1.block R nR)).trans (by simp [go_sem, z3])
               have O1 := hide o1; have OG := hide og; have HS1 := hide hs; clear o1 og hs nR))
          all_goals
            go_wp2_with fail
            go_meet
          all_goals
            obtain ⟨F0, F1, F4⟩ := unhide HF
            have o1 := unhide O1
            have nR : ¬ (R = gb ∨ R = S) := by omega
            have r1 := (unhide HR2).of_block (o1.block R nR)
            have oR := ((Only.refl (fun j => j = R) w1).setCell (a := ⟨R, 4, none⟩) rfl .nilIface).setCell (a := ⟨R, 3, none⟩) rfl (.int .i64 ((c : Int) + 1))
            have hsame : ∀ b, ¬ (b = gb ∨ b = S) → b ≠ R → w1.heap[b]? = w.heap[b]? := fun b h1 h2 => (o1.block b h1).trans ((unhide HO2).block b h2)
            refine ⟨0, c + 1, splice cb 0 (bytes dat m (c + 1)), by omega, ⟨⟨_, row_set (row_set r1 4 _) 3 _, by simp [upd, F0], by simp [upd, F1], by simp [upd], by simp [upd], by simp [upd]⟩,
              (unhide OG).of_block (oR.block gb (Ne.symm hRb)), by rw [length_splice _ _ _ (by rw [bytes_len]; omega)]; exact hlen, ⟨by omega, by omega⟩, fun i hi => ?_, ?_, hold⟩, ((unhide HG).of_block (hsame g (by omega) (Ne.symm hRg))).of_block (oR.block g (Ne.symm hRg)), ?_⟩
            · rw [splice_at (by rw [bytes_len]; omega) (by rw [bytes_len]; omega), bytes_at _ _ _ _ (by omega)]
            · rw [Nat.sub_zero]
              exact (unhide HS1).of_only oR (fun j e => ⟨by omega, by omega⟩)
            · exact Only.trans (y := w1) ⟨o1.os.trans (unhide HO2).os, o1.tape.trans (unhide HO2).tape, o1.output.trans (unhide HO2).output, o1.size.trans (unhide HO2).size, fun b hb => hsame b (by omega) (by omega)⟩ (oR.mono (fun j e => .inr (.inr (.inl e))))
  case rest =>
    obtain ⟨r2, wp2, cb2, hrw2, hB2, hG2, hO2⟩ := hcut
    obtain ⟨w2, hw2⟩ : ∃ w2, w2 = wc := ⟨_, rfl⟩
    subst hw2
    clear HH HG HR HF HF2 hlen hord hro hwo x0 x1 x2 x3 x4 x5 x6 z2 z3 z4 z5 z6
    obtain ⟨F2, hr, F0, F1, F2', F3, F4⟩ := hB2.row
    have hlen := hB2.len
    have hwo := hB2.ord.2
    obtain ⟨c, hc, hcl, hcw⟩ : ∃ c, Nat.min (wp2 - r2) l = c + 1 ∧ c < l ∧ r2 + (c + 1) ≤ wp2 := by
      rw [show Nat.min (wp2 - r2) l = min (wp2 - r2) l from rfl]
      exact ⟨min (wp2 - r2) l - 1, by omega, by omega, by omega⟩
    have t5 : r2 ≤ wp2 := by omega
    have t6 : (wp2 : Int) ≤ 16 := by omega
    have t8 : r2 + c < 16 := by omega
    have x0 : w2.cell? ⟨R, 0, none⟩ = some (.slice (some ⟨gb, 0, none⟩) 16 16) := by rw [hr.cell (by omega), F0]
    have x2 : w2.cell? ⟨R, 2, none⟩ = some (.int .i64 r2) := by rw [hr.cell (by omega), F2']
    have x3 : w2.cell? ⟨R, 3, none⟩ = some (.int .i64 wp2) := by rw [hr.cell (by omega), F3]
    have x5 := hr.cell (i := 5) (by omega)
    have x6 := hr.cell (i := 6) (by omega)
    have z5 := hr.frozen 5
    have z6 := hr.frozen 6
    have xb : w2.cell? ⟨gb, r2 + c, none⟩ = some (.int .u8 (dat (m + c) : Int)) := by rw [hB2.buf.cell]; exact hB2.con c (by omega)
    have z2 := hr.frozen 2
    have t4 : ¬ 16 = r2 := by omega
    have hsrc : ∀ j v, (bytes dat m (c + 1))[j]? = some v → w2.cell? ((⟨gb, r2, none⟩ : Addr).add j) = some v := fun j v hj => by
      obtain ⟨hj1, rfl⟩ := bytes_get hj
      rw [addr_add, hB2.buf.cell]
      exact hB2.con j (by omega)
    have HSRC := hide hsrc
    have HB2 := hide hB2
    have HG2 := hide hG2
    have HO2 := hide hO2
    have HR := hide hr
    have HC := hide hc
    have HF : Hid (F2 0 = .slice (some ⟨gb, 0, none⟩) 16 16 ∧ F2 1 = .iface 26 (.pointer (some ⟨S, 0, none⟩)) ∧ F2 3 = .int .i64 wp2 ∧ F2 4 = .nilIface) := ⟨F0, F1, F3, F4⟩
    clear hsrc hB2 hG2 hO2 hr hc F0 F1 F2' F3 F4
    go_wp2_with fail
    go_cut [4] from 109 to 123 (fun s wx => s = .int .i64 ((c : Int) + 1) ∧ Oct g (splice cur off (bytes dat m (c + 1))) wx ∧ Only (fun k => k = g) w2 wx)
    case first =>
      go_region_held3 (fun w' => w'.cell? ⟨R, 0, none⟩ = some (.slice (some ⟨gb, 0, none⟩) 16 16) ∧ w'.cell? ⟨R, 2, none⟩ = some (.int .i64 r2) ∧ w'.cell? ⟨R, 3, none⟩ = some (.int .i64 wp2)) (first | exact ⟨x0, x2, x3⟩ | exact ⟨(o3.cell (a := ⟨R, 0, none⟩) hRg).trans x0, (o3.cell (a := ⟨R, 2, none⟩) hRg).trans x2, (o3.cell (a := ⟨R, 3, none⟩) hRg).trans x3⟩) (first | (refine step_copy_only _ rfl (.tmp 109) (.tmp 122) rfl g off _ _ ⟨gb, r2, none⟩ _ _ rfl rfl cur (bytes dat m (c + 1)) (by exact unhide HG2) (by rw [bytes_len]; exact (unhide HC).symm) (by exact unhide HSRC) (by rw [bytes_len]; omega) (bytes_one _ _ _) ?_; intro w3 h3 o3; rw [bytes_len]))
      go_wp2_with fail
      go_meet
      case rel => exact ⟨rfl, h3, ⟨o3.os, o3.tape, o3.output, o3.size, o3.block⟩⟩
    case rest =>
      obtain ⟨rfl, h3, o3⟩ := hcut
      obtain ⟨w3, hw3⟩ : ∃ w3, w3 = wc := ⟨_, rfl⟩
      subst hw3
      have y2 := (o3.cell (a := ⟨R, 2, none⟩) hRg).trans x2
      have e2 := (World.frozen?_of_block (a := ⟨R, 2, none⟩) (o3.block R hRg)).trans z2
      have y0 := (o3.cell (a := ⟨R, 0, none⟩) hRg).trans x0
      have y5 := (o3.cell (a := ⟨R, 5, none⟩) hRg).trans x5
      have y6 := (o3.cell (a := ⟨R, 6, none⟩) hRg).trans x6
      have e5 := (World.frozen?_of_block (a := ⟨R, 5, none⟩) (o3.block R hRg)).trans z5
      have e6 := (World.frozen?_of_block (a := ⟨R, 6, none⟩) (o3.block R hRg)).trans z6
      have yb := (o3.cell (a := ⟨gb, r2 + c, none⟩) (Ne.symm hgb)).trans xb
      have H3 := hide h3
      have O3 := hide o3
      clear h3 o3 x0 x2 x3 x5 x6 xb z2 z5 z6
      go_wp2_with fail
      have hw4 : ∃ w4, w4 = w3.setCell ⟨R, 2, none⟩ (.int .i64 ((r2 : Int) + ((c : Int) + 1))) := ⟨_, rfl⟩
      obtain ⟨w4, hw4⟩ := hw4
      rw [← hw4]
      have v2 : w4.cell? ⟨R, 2, none⟩ = some (.int .i64 ((r2 : Int) + ((c : Int) + 1))) := by rw [hw4]; simp [go_sem, y2]
      have v0 : w4.cell? ⟨R, 0, none⟩ = some (.slice (some ⟨gb, 0, none⟩) 16 16) := by rw [hw4]; simp [go_sem, y0]
      have v5 : w4.cell? ⟨R, 5, none⟩ = some (F2 5) := by rw [hw4]; simp [go_sem, y5]
      have v6 : w4.cell? ⟨R, 6, none⟩ = some (F2 6) := by rw [hw4]; simp [go_sem, y6]
      have u5 : w4.frozen? ⟨R, 5, none⟩ = false := by rw [hw4]; simp [go_sem, e5]
      have u6 : w4.frozen? ⟨R, 6, none⟩ = false := by rw [hw4]; simp [go_sem, e6]
      have vb : w4.cell? ⟨gb, r2 + c, none⟩ = some (.int .u8 (dat (m + c) : Int)) := by rw [hw4, World.cell?_of_block (Below.heap_setCell _ _ _ _ (Ne.symm hRb))]; exact yb
      have HW4 := hide hw4
      clear hw4 y2 y0 y5 y6 e5 e6 yb e2
      have t9 : ((r2 : Int) + ((c : Int) + 1) - 1) = ((r2 + c : Nat) : Int) := by omega
      go_region
      go_wp2_with fail
      go_ret2
      obtain rfl := unhide HW4
      obtain ⟨F0, F1, F3, F4⟩ := unhide HF
      have o3 := unhide O3
      have hB2 := unhide HB2
      have r3 := (unhide HR).of_block (o3.block R hRg)
      have oR := ((Only.refl (fun j => j = R) w3).setCell (a := ⟨R, 2, none⟩) rfl (.int .i64 ((r2 : Int) + ((c : Int) + 1)))).setCell (a := ⟨R, 5, none⟩) rfl (.int .i64 (RowKit.wrap64 (dat (m + c))))
      have oS := (oR.setCell (a := ⟨R, 6, none⟩) rfl (.int .i64 (-1))).drew
      have hs3 := hB2.src.of_only (w' := w3) (X := fun j => j = g) ⟨o3.os, o3.tape, o3.output, o3.size, o3.block⟩ (fun j e => ⟨by omega, by omega⟩)
      have hpos := hB2.src.pos
      refine .inr ⟨by omega, c + 1, by omega, by omega, by omega, by simp, (unhide H3).of_block (oS.block g (Ne.symm hRg)), ⟨r2 + (c + 1), wp2, cb2, ⟨_, (row_set (row_set (row_set r3 2 _) 5 _) 6 _).drew, by simp [upd, F0], by simp [upd, F1], by simp [upd], by simp [upd, F3], by simp [upd, F4]⟩,
        (hB2.buf.of_block (o3.block gb (Ne.symm hgb))).of_block (oS.block gb (Ne.symm hRb)), hlen, ⟨by omega, by omega⟩, fun i hi => ?_, ?_, hold⟩, ?_⟩
      · rw [show r2 + (c + 1) + i = r2 + (c + 1 + i) from by omega, hB2.con _ (by omega), show m + (c + 1) + i = m + (c + 1 + i) from by omega]
      · rw [show m + (c + 1) + (wp2 - (r2 + (c + 1))) = m + (wp2 - r2) from by omega]
        exact hs3.of_only oS (fun j e => ⟨by omega, by omega⟩)
      · exact (unhide HO2).trans (Only.trans (y := w3) ⟨o3.os, o3.tape, o3.output, o3.size, fun b hb => o3.block b (by omega)⟩ (oS.mono (fun j e => .inr (.inr (.inl e)))))
end Go.Proofs.YbulkcyvkFmt
