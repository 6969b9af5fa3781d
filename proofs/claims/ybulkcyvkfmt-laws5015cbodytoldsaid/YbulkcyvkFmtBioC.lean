/-
  bufio.Reader over the other law's source: Read (71) of eight octets into the Reader's own buffer; ReadByte (22) with an octet buffered.
-/
import Derived.Test.YbulkcyvkFmtSrcC
namespace Go.Proofs.YbulkcyvkFmt
open Go.RowKit

theorem Only.drewN {S : Nat → Prop} {x y : World} (h : Only S x y) (n : Nat) : Only S x (y.drewN n) := ⟨h.os, h.tape, h.output, h.size, h.block⟩
@[go_sem] theorem methodRead72 (v : Value) (w : World) : (Go.method 368 72 v "Read").run Ybaf.prog w = .ok (89, v) w := by kernel_rfl

/-- The reader's fields. -/
structure BR (R gb S r wp : Nat) (w : World) : Prop where
  row : ∃ F, w.rowIs R 88 7 F ∧ F 0 = .slice (some ⟨gb, 0, none⟩) 16 16 ∧ F 1 = .iface 72 (.pointer (some ⟨S, 0, none⟩)) ∧ F 2 = .int .i64 r ∧ F 3 = .int .i64 wp ∧ F 4 = .nilIface
theorem BR.of_only {R gb S r wp : Nat} {w w' : World} {X : Nat → Prop} (h : BR R gb S r wp w) (o : Only X w w') (hX : ¬ X R) : BR R gb S r wp w' := by
  obtain ⟨F, hr, h2⟩ := h.row
  exact ⟨F, o.row hX hr, h2⟩

set_option maxHeartbeats 2000000 in
set_option maxRecDepth 100000 in
theorem bufEnd (B R gb S x Rd off l lcap : Nat) (da : Option Addr) (N cap : Nat) (dat : Nat → Nat) (aE : Addr) (w : World) (hb : BR R gb S x x w) (_hx : x ≤ 16) (hs : CSrc B S da N cap dat N w) (g0 : w.cell? ⟨0, 0, none⟩ = some (.iface 81 (.pointer (some aE)))) (hRB : B ≤ R) (hB3 : 3 < B) (hl : 0 < l) (hl2 : l < 16) :
    Calls Ybaf.prog 71 #[.pointer (some ⟨R, 0, none⟩), .slice (some ⟨Rd, off, none⟩) l lcap] w fun e w' => e = .returned (.tuple #[.int .i64 0, .iface 81 (.pointer (some aE))]) ∧ Only (fun j => j = R) w w' := by
  obtain ⟨F, hr, F0, F1, F2, F3, F4⟩ := hb.row
  have hRS : R ≠ S := row_ne hr hs.row (by decide)
  have x0 : w.cell? ⟨R, 0, none⟩ = some (.slice (some ⟨gb, 0, none⟩) 16 16) := by rw [hr.cell (by omega), F0]
  have x1 : w.cell? ⟨R, 1, none⟩ = some (.iface 72 (.pointer (some ⟨S, 0, none⟩))) := by rw [hr.cell (by omega), F1]
  have x2 : w.cell? ⟨R, 2, none⟩ = some (.int .i64 x) := by rw [hr.cell (by omega), F2]
  have x3 : w.cell? ⟨R, 3, none⟩ = some (.int .i64 x) := by rw [hr.cell (by omega), F3]
  have x4 : w.cell? ⟨R, 4, none⟩ = some .nilIface := by rw [hr.cell (by omega), F4]
  have z2 := hr.frozen 2
  have z3 := hr.frozen 3
  have z4 := hr.frozen 4
  have o2 := ((Only.refl (fun j => j = R) w).drew.setCell (a := ⟨R, 2, none⟩) rfl (.int .i64 0)).setCell (a := ⟨R, 3, none⟩) rfl (.int .i64 0)
  have HS2 := hide (hs.of_only o2 (fun j e => ⟨by omega, by omega⟩))
  have HO2 := hide o2
  have q0 : ((w.drew.setCell ⟨R, 2, none⟩ (.int .i64 0)).setCell ⟨R, 3, none⟩ (.int .i64 0)).cell? ⟨0, 0, none⟩ = some (.iface 81 (.pointer (some aE))) := (o2.cell (a := ⟨0, 0, none⟩) (by show ¬ (0 = R); omega)).trans g0
  have HQ0 := hide q0
  clear o2 q0 hr hb hs F0 F1 F2 F3 F4
  go_enter Ybaf.func71, Ybaf.ntmps71
  go_wp2_with fail
  go_region
  go_wp2_with fail
  go_region_with (first
    | (go_at_call 89; refine (csrcEnd B S da N cap dat aE _ (by exact (unhide HS2).drew) (by exact unhide HQ0) _).mono ?_; rintro e w1 ⟨rfl, o1⟩
       have y4 : w1.cell? ⟨R, 4, none⟩ = some .nilIface := (o1.cell (a := ⟨R, 4, none⟩) (fun e => e)).trans (by simp [go_sem, x4])
       have q4 : w1.frozen? ⟨R, 4, none⟩ = false := (World.frozen?_of_block (o1.block R (fun e => e))).trans (by simp [go_sem, z4])
       have O1 := hide o1; clear o1))
  all_goals
    go_wp2_with (go_at_call 40; refine (readErr R _ _ (by simp [go_sem, y4]; rfl) (by simp [go_sem, q4])).mono ?_; rintro e w2 ⟨rfl, rfl⟩)
    go_ret2
    have o1 := unhide O1
    have oR := ((Only.refl (fun j => j = R) w1).setCell (a := ⟨R, 4, none⟩) rfl (.iface 81 (.pointer (some aE)))).setCell (a := ⟨R, 4, none⟩) rfl .nilIface
    exact ⟨rfl, Only.trans (y := w1) ⟨o1.os.trans (unhide HO2).os, o1.tape.trans (unhide HO2).tape, o1.output.trans (unhide HO2).output, o1.size.trans (unhide HO2).size, fun b hb => (o1.block b (fun e => e)).trans ((unhide HO2).block b hb)⟩ oR⟩

set_option maxHeartbeats 2000000 in
set_option maxRecDepth 100000 in
theorem bufFirst (B R gb S Rd : Nat) (da : Option Addr) (N cap c m : Nat) (dat : Nat → Nat) (H G : Nat → Value) (w : World) (hb : BR R gb S 0 0 w) (hs : CSrc B S da N cap dat 0 w) (hH : w.rowIs gb 5 16 H) (hG : w.rowIs Rd 44 33 G) (hold : B ≤ R ∧ B ≤ gb ∧ B ≤ Rd) (hN0 : 0 < N) (hc : c = min 16 N) (hm : m = min 8 N) :
    Calls Ybaf.prog 71 #[.pointer (some ⟨R, 0, none⟩), .slice (some ⟨Rd, 7, none⟩) 8 24] w fun e w' => e = .returned (.tuple #[.int .i64 m, .nilIface]) ∧ w'.rowIs Rd 44 33 (putF G 7 (bytes dat 0 m)) ∧ BR R gb S m c w' ∧ w'.rowIs gb 5 16 (putF H 0 (bytes dat 0 c)) ∧ CSrc B S da N cap dat c w' ∧ Only (fun j => j = Rd ∨ j = R ∨ j = gb ∨ j = S) w w' := by
  obtain ⟨F, hr, F0, F1, F2, F3, F4⟩ := hb.row
  have hRS : R ≠ S := row_ne hr hs.row (by decide)
  have hRb : R ≠ gb := row_ne hr hH (by decide)
  have hRd : R ≠ Rd := row_ne hr hG (by decide)
  have hSb : S ≠ gb := row_ne hs.row hH (by decide)
  have hSd : S ≠ Rd := row_ne hs.row hG (by decide)
  have hbd : gb ≠ Rd := row_ne hH hG (by decide)
  have x0 : w.cell? ⟨R, 0, none⟩ = some (.slice (some ⟨gb, 0, none⟩) 16 16) := by rw [hr.cell (by omega), F0]
  have x1 : w.cell? ⟨R, 1, none⟩ = some (.iface 72 (.pointer (some ⟨S, 0, none⟩))) := by rw [hr.cell (by omega), F1]
  have x2 : w.cell? ⟨R, 2, none⟩ = some (.int .i64 0) := by rw [hr.cell (by omega), F2]; rfl
  have x3 : w.cell? ⟨R, 3, none⟩ = some (.int .i64 0) := by rw [hr.cell (by omega), F3]; rfl
  have x4 : w.cell? ⟨R, 4, none⟩ = some .nilIface := by rw [hr.cell (by omega), F4]
  have z2 := hr.frozen 2
  have z3 := hr.frozen 3
  have z4 := hr.frozen 4
  have o2 := ((Only.refl (fun j => j = R) w).drew.setCell (a := ⟨R, 2, none⟩) rfl (.int .i64 0)).setCell (a := ⟨R, 3, none⟩) rfl (.int .i64 0)
  have HS2 := hide (hs.of_only o2 (fun j e => ⟨by omega, by omega⟩))
  have HH2 := hide (o2.row (Ne.symm hRb) hH)
  have HR2 := hide (row_set (row_set hr.drew 2 (.int .i64 0)) 3 (.int .i64 0))
  have HO2 := hide o2
  have HG := hide hG
  have HF : Hid (F 0 = .slice (some ⟨gb, 0, none⟩) 16 16 ∧ F 1 = .iface 72 (.pointer (some ⟨S, 0, none⟩)) ∧ F 4 = .nilIface) := ⟨F0, F1, F4⟩
  have hc1 : 1 ≤ c := by omega
  have hc16 : c ≤ 16 := by omega
  have hmc : m ≤ c := by omega
  have hm8 : m ≤ 8 := by omega
  have hm1 : 1 ≤ m := by omega
  have hcN : c ≤ N := by omega
  have HMC : Hid (m = Nat.min c 8) := by show m = Nat.min c 8; rw [show Nat.min c 8 = min c 8 from rfl]; omega
  have HCN := hide hc
  clear hc hm
  clear o2 hr hb hs hH hG F0 F1 F2 F3 F4
  go_enter Ybaf.func71, Ybaf.ntmps71
  go_wp2_with fail
  go_region
  go_upto_if 23 with fail
  go_cut [4, 5] from 6 to 108 (fun _ _ wx => wx.rowIs gb 5 16 (putF H 0 (bytes dat 0 c)) ∧ BR R gb S 0 c wx ∧ CSrc B S da N cap dat c wx ∧ Only (fun j => j = Rd ∨ j = R ∨ j = gb ∨ j = S) w wx ∧ wx.rowIs Rd 44 33 G)
  case first =>
    go_wp2_with fail
    go_region_with (first
      | (go_at_call 89; refine (csrcFirst B S gb da N cap c dat H _ (by exact (unhide HS2).drew) (by exact unhide HH2) hold.2.1 hN0 (unhide HCN)).mono ?_; rintro e w1 ⟨rfl, og, hs, o1⟩
         have nR : ¬ (R = gb ∨ R = S) := (by omega)
         have y4 : w1.cell? ⟨R, 4, none⟩ = some .nilIface := (o1.cell (a := ⟨R, 4, none⟩) nR).trans (by simp [go_sem, x4])
         have y3 : w1.cell? ⟨R, 3, none⟩ = some (.int .i64 0) := (o1.cell (a := ⟨R, 3, none⟩) nR).trans (by simp [go_sem, x3])
         have q4 : w1.frozen? ⟨R, 4, none⟩ = false := (World.frozen?_of_block (o1.block R nR)).trans (by simp [go_sem, z4])
         have q3 : w1.frozen? ⟨R, 3, none⟩ = false := (World.frozen?_of_block (o1.block R nR)).trans (by simp [go_sem, z3])
         have O1 := hide o1; have OG := hide og; have HS1 := hide hs; clear o1 og hs nR))
    all_goals
      go_wp2_with fail
      go_meet
    all_goals
      obtain ⟨F0, F1, F4⟩ := unhide HF
      have o1 := unhide O1
      have nR : ¬ (R = gb ∨ R = S) := by omega
      have r1 := (unhide HR2).of_block (o1.block R nR)
      have oR := ((Only.refl (fun j => j = R) w1).setCell (a := ⟨R, 4, none⟩) rfl .nilIface).setCell (a := ⟨R, 3, none⟩) rfl (.int .i64 (c : Int))
      have hsame : ∀ b, ¬ (b = gb ∨ b = S) → b ≠ R → w1.heap[b]? = w.heap[b]? := fun b h1 h2 => (o1.block b h1).trans ((unhide HO2).block b h2)
      refine ⟨oR.row (Ne.symm hRb) (unhide OG), ⟨_, row_set (row_set r1 4 _) 3 _, by simp [upd, F0], by simp [upd, F1], by simp [upd], by simp [upd], by simp [upd]⟩, (unhide HS1).of_only oR (fun j e => ⟨by omega, by omega⟩), ?_, oR.row (Ne.symm hRd) ((unhide HG).of_block (hsame Rd (by omega) (Ne.symm hRd)))⟩
      exact Only.trans (y := w1) ⟨o1.os.trans (unhide HO2).os, o1.tape.trans (unhide HO2).tape, o1.output.trans (unhide HO2).output, o1.size.trans (unhide HO2).size, fun b hb => hsame b (by omega) (by omega)⟩ (oR.mono (fun j e => .inr (.inl e)))
  case rest =>
    obtain ⟨hGb, hBR, hCS, hO2, hG⟩ := hcut
    obtain ⟨w2, hw2⟩ : ∃ w2, w2 = wc := ⟨_, rfl⟩
    subst hw2
    clear HS2 HH2 HR2 HO2 HG HF x0 x1 x2 x3 x4 z2 z3 z4
    obtain ⟨F2, hr, F0, F1, F2', F3, F4⟩ := hBR.row
    have x0 : w2.cell? ⟨R, 0, none⟩ = some (.slice (some ⟨gb, 0, none⟩) 16 16) := by rw [hr.cell (by omega), F0]
    have x2 : w2.cell? ⟨R, 2, none⟩ = some (.int .i64 0) := by rw [hr.cell (by omega), F2']; rfl
    have x3 : w2.cell? ⟨R, 3, none⟩ = some (.int .i64 c) := by rw [hr.cell (by omega), F3]
    have x5 := hr.cell (i := 5) (by omega)
    have x6 := hr.cell (i := 6) (by omega)
    have z5 := hr.frozen 5
    have z6 := hr.frozen 6
    have z2 := hr.frozen 2
    have t6 : (c : Int) ≤ 16 := by omega
    have hgc : ∀ j, j < c → w2.cell? ⟨gb, j, none⟩ = some (.int .u8 (dat j : Int)) := fun j hj => by
      rw [hGb.cell (by omega)]
      unfold putF
      rw [if_pos ⟨by omega, by rw [bytes_len]; omega⟩, Nat.sub_zero, List.getD_eq_getElem?_getD, bytes_at _ _ _ _ hj, Nat.zero_add]
      rfl
    have hsrc : ∀ j v, (bytes dat 0 m)[j]? = some v → w2.cell? ((⟨gb, 0, none⟩ : Addr).add j) = some v := fun j v hj => by
      obtain ⟨hj1, rfl⟩ := bytes_get hj
      rw [addr_add, Nat.zero_add]
      simpa using hgc j (by omega)
    obtain ⟨m', rfl⟩ : ∃ m', m = m' + 1 := ⟨m - 1, by omega⟩
    have xb : w2.cell? ⟨gb, m', none⟩ = some (.int .u8 (dat m' : Int)) := hgc m' (by omega)
    have HSRC := hide hsrc
    have HGB := hide hGb
    have HCS := hide hCS
    have HG := hide hG
    have HO2 := hide hO2
    have HR := hide hr
    have HF : Hid (F2 0 = .slice (some ⟨gb, 0, none⟩) 16 16 ∧ F2 1 = .iface 72 (.pointer (some ⟨S, 0, none⟩)) ∧ F2 3 = .int .i64 c ∧ F2 4 = .nilIface) := ⟨F0, F1, F3, F4⟩
    clear hsrc hgc hGb hCS hG hO2 hr F0 F1 F2' F3 F4 hBR
    go_wp2_with fail
    go_cut [4] from 109 to 123 (fun s wx => s = .int .i64 ((m' : Int) + 1) ∧ wx.rowIs Rd 44 33 (putF G 7 (bytes dat 0 (m' + 1))) ∧ Only (fun k => k = Rd) w2 wx)
    case first =>
      go_region_held3 (fun w' => w'.cell? ⟨R, 0, none⟩ = some (.slice (some ⟨gb, 0, none⟩) 16 16) ∧ w'.cell? ⟨R, 2, none⟩ = some (.int .i64 0) ∧ w'.cell? ⟨R, 3, none⟩ = some (.int .i64 c)) (first | exact ⟨x0, x2, x3⟩ | exact ⟨(o3.cell (a := ⟨R, 0, none⟩) hRd).trans x0, (o3.cell (a := ⟨R, 2, none⟩) hRd).trans x2, (o3.cell (a := ⟨R, 3, none⟩) hRd).trans x3⟩) (first | (refine step_copy_row _ rfl (.tmp 109) (.tmp 122) rfl Rd 7 _ _ ⟨gb, 0, none⟩ _ _ rfl rfl (by exact unhide HG) (bytes dat 0 (m' + 1)) (by rw [bytes_len]; exact unhide HMC) (by exact unhide HSRC) (by rw [bytes_len]; omega) (bytes_one _ _ _) ?_; intro w3 h3 o3; rw [bytes_len]))
      go_wp2_with fail
      go_meet
      case rel => exact ⟨rfl, h3, ⟨o3.os, o3.tape, o3.output, o3.size, o3.block⟩⟩
    case rest =>
      obtain ⟨rfl, h3, o3⟩ := hcut
      obtain ⟨w3, hw3⟩ : ∃ w3, w3 = wc := ⟨_, rfl⟩
      subst hw3
      have y2 := (o3.cell (a := ⟨R, 2, none⟩) hRd).trans x2
      have e2 := (World.frozen?_of_block (a := ⟨R, 2, none⟩) (o3.block R hRd)).trans z2
      have y0 := (o3.cell (a := ⟨R, 0, none⟩) hRd).trans x0
      have y5 := (o3.cell (a := ⟨R, 5, none⟩) hRd).trans x5
      have y6 := (o3.cell (a := ⟨R, 6, none⟩) hRd).trans x6
      have e5 := (World.frozen?_of_block (a := ⟨R, 5, none⟩) (o3.block R hRd)).trans z5
      have e6 := (World.frozen?_of_block (a := ⟨R, 6, none⟩) (o3.block R hRd)).trans z6
      have yb := (o3.cell (a := ⟨gb, m', none⟩) hbd).trans xb
      have H3 := hide h3
      have O3 := hide o3
      clear h3 o3 x0 x2 x3 x5 x6 xb z2 z5 z6
      go_wp2_with fail
      have hw4 : ∃ w4, w4 = w3.setCell ⟨R, 2, none⟩ (.int .i64 ((m' : Int) + 1)) := ⟨_, rfl⟩
      obtain ⟨w4, hw4⟩ := hw4
      rw [← hw4]
      have v2 : w4.cell? ⟨R, 2, none⟩ = some (.int .i64 ((m' : Int) + 1)) := by rw [hw4]; simp [go_sem, y2]
      have v0 : w4.cell? ⟨R, 0, none⟩ = some (.slice (some ⟨gb, 0, none⟩) 16 16) := by rw [hw4]; simp [go_sem, y0]
      have v5 : w4.cell? ⟨R, 5, none⟩ = some (F2 5) := by rw [hw4]; simp [go_sem, y5]
      have v6 : w4.cell? ⟨R, 6, none⟩ = some (F2 6) := by rw [hw4]; simp [go_sem, y6]
      have u5 : w4.frozen? ⟨R, 5, none⟩ = false := by rw [hw4]; simp [go_sem, e5]
      have u6 : w4.frozen? ⟨R, 6, none⟩ = false := by rw [hw4]; simp [go_sem, e6]
      have vb : w4.cell? ⟨gb, m', none⟩ = some (.int .u8 (dat m' : Int)) := by rw [hw4, World.cell?_of_block (Below.heap_setCell _ _ _ _ (Ne.symm hRb))]; exact yb
      have HW4 := hide hw4
      have t8 : m' < 16 := by omega
      clear hw4 y2 y0 y5 y6 e5 e6 yb e2
      go_region
      go_wp2_with fail
      go_ret2
      obtain rfl := unhide HW4
      obtain ⟨F0, F1, F3, F4⟩ := unhide HF
      have o3 := unhide O3
      have r3 := (unhide HR).of_block (o3.block R hRd)
      have oR := ((Only.refl (fun j => j = R) w3).setCell (a := ⟨R, 2, none⟩) rfl (.int .i64 ((m' : Int) + 1))).setCell (a := ⟨R, 5, none⟩) rfl (.int .i64 (RowKit.wrap64 (dat m')))
      have oS := (oR.setCell (a := ⟨R, 6, none⟩) rfl (.int .i64 (-1))).drew
      refine ⟨by simp, oS.row (Ne.symm hRd) (unhide H3), ⟨_, (row_set (row_set (row_set r3 2 _) 5 _) 6 _).drew, by simp [upd, F0], by simp [upd, F1], by simp [upd], by simp [upd, F3], by simp [upd, F4]⟩, oS.row (Ne.symm hRb) ((unhide HGB).of_block (o3.block gb hbd)), ((unhide HCS).of_only (w' := w3) (X := fun j => j = Rd) ⟨o3.os, o3.tape, o3.output, o3.size, o3.block⟩ (fun j e => ⟨by omega, by omega⟩)).of_only oS (fun j e => ⟨by omega, by omega⟩), ?_⟩
      exact (unhide HO2).trans (Only.trans (y := w3) ⟨o3.os, o3.tape, o3.output, o3.size, fun b hb => o3.block b (by omega)⟩ (oS.mono (fun j e => .inr (.inl e))))

set_option maxHeartbeats 1000000 in
set_option maxRecDepth 100000 in
theorem readByte (R gb S r wp : Nat) (v : Nat) (H : Nat → Value) (w : World) (hb : BR R gb S r wp w) (hr1 : r < wp) (hw : wp ≤ 16) (hH : w.rowIs gb 5 16 H) (hv : H r = .int .u8 (v : Int)) :
    Calls Ybaf.prog 22 #[.pointer (some ⟨R, 0, none⟩)] w fun e w' => e = .returned (.tuple #[.int .u8 (v : Int), .nilIface]) ∧ Only (fun j => j = R) w w' := by
  obtain ⟨F, hr, F0, F1, F2, F3, F4⟩ := hb.row
  have hRb : R ≠ gb := row_ne hr hH (by decide)
  have x0 : w.cell? ⟨R, 0, none⟩ = some (.slice (some ⟨gb, 0, none⟩) 16 16) := by rw [hr.cell (by omega), F0]
  have x2 : w.cell? ⟨R, 2, none⟩ = some (.int .i64 r) := by rw [hr.cell (by omega), F2]
  have x3 : w.cell? ⟨R, 3, none⟩ = some (.int .i64 wp) := by rw [hr.cell (by omega), F3]
  have x5 := hr.cell (i := 5) (by omega)
  have x6 := hr.cell (i := 6) (by omega)
  have z2 := hr.frozen 2
  have z5 := hr.frozen 5
  have z6 := hr.frozen 6
  have xb : w.cell? ⟨gb, r, none⟩ = some (.int .u8 (v : Int)) := by rw [hH.cell (by omega), hv]
  have t1 : r < 16 := by omega
  clear hb hr hH F0 F1 F2 F3 F4 hv
  go_enter Ybaf.func22, Ybaf.ntmps22
  go_wp2_with fail
  refine wp_loop_rounds 1 ?_
  rw [rounds_succ]
  go_wp2_with fail
  go_quiet (fail)
  go_wp2_with fail
  go_quiet (fail)
  go_wp2_with fail
  go_ret2
  exact ⟨rfl, ((((Only.refl (fun j => j = R) w).setCell (a := ⟨R, 6, none⟩) rfl (.int .i64 (-1))).drewN _).setCell (a := ⟨R, 2, none⟩) rfl _).setCell (a := ⟨R, 5, none⟩) rfl _⟩
end Go.Proofs.YbulkcyvkFmt
