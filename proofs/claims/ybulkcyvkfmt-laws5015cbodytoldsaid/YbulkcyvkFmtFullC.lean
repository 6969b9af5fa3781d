/-
  io.ReadAtLeast (42), io.ReadFull (24), (*Reader).read (10): eight octets into the Reader's own buffer.
-/
import Derived.Test.YbulkcyvkFmtBioC
namespace Go.Proofs.YbulkcyvkFmt
open Go.RowKit Go.Extern.Stop Go.Stop Go.Extern

/-- The reader, ready to read. -/
structure CReady (B Rd R gb S : Nat) (da : Option Addr) (N cap : Nat) (dat : Nat → Nat) (aE aU : Addr) (G : Nat → Value) (w : World) : Prop where
  br : BR R gb S 0 0 w
  cs : CSrc B S da N cap dat 0 w
  gbr : ∃ H, w.rowIs gb 5 16 H
  rd : w.rowIs Rd 44 33 G
  g0 : G 0 = .pointer (some ⟨R, 0, none⟩)
  sn : Sents B aE aU w
  old : B ≤ R ∧ B ≤ gb ∧ B ≤ Rd

/-- Eight octets are read; the reader holds what else it took. -/
structure CGot (B Rd R gb S : Nat) (N : Nat) (dat : Nat → Nat) (G : Nat → Value) (w w' : World) : Prop where
  rd : w'.rowIs Rd 44 33 (putF G 7 (bytes dat 0 8))
  br : ∃ c, c = min 16 N ∧ BR R gb S 8 c w' ∧ ∃ H, w'.rowIs gb 5 16 (putF H 0 (bytes dat 0 c))
  only : Only (fun j => j = Rd ∨ j = R ∨ j = gb ∨ j = S) w w'
/-- The octets did not suffice. -/
structure CShort (B Rd R gb S : Nat) (N : Nat) (G : Nat → Value) (w w' : World) : Prop where
  rd : ∃ cs : List Value, cs.length ≤ 8 ∧ w'.rowIs Rd 44 33 (putF G 7 cs)
  only : Only (fun j => j = Rd ∨ j = R ∨ j = gb ∨ j = S) w w'

theorem putF_nil (G : Nat → Value) (off : Nat) : putF G off [] = G := by
  funext i
  unfold putF
  rw [if_neg (by simp)]

/-- No old block turns but those of X; some may be laid. -/
structure Grew (X : Nat → Prop) (w w' : World) : Prop where
  os : w'.os = w.os
  tape : w'.tape = w.tape
  output : w'.output = w.output
  size : w.heap.size ≤ w'.heap.size
  block : ∀ k, k < w.heap.size → ¬ X k → w'.heap[k]? = w.heap[k]?
theorem Only.grew {X : Nat → Prop} {w w' : World} (h : Only X w w') : Grew X w w' := ⟨h.os, h.tape, h.output, Nat.le_of_eq h.size.symm, fun k _ => h.block k⟩
theorem Grew.trans {X : Nat → Prop} {x y z : World} (h : Grew X x y) (k : Grew X y z) : Grew X x z :=
  ⟨k.os.trans h.os, k.tape.trans h.tape, k.output.trans h.output, Nat.le_trans h.size k.size, fun i hi hx => (k.block i (Nat.lt_of_lt_of_le hi h.size) hx).trans (h.block i hi hx)⟩
theorem Grew.alloc {X : Nat → Prop} {x y : World} (h : Grew X x y) (o : Obj) : Grew X x (y.alloc o) :=
  ⟨h.os, h.tape, h.output, by rw [World.size_alloc]; have := h.size; omega, fun i hi hx => by rw [Below.heap_alloc _ _ _ (Nat.lt_of_lt_of_le hi h.size)]; exact h.block i hi hx⟩
theorem Grew.drew {X : Nat → Prop} {x y : World} (h : Grew X x y) : Grew X x y.drew := ⟨h.os, h.tape, h.output, h.size, h.block⟩
theorem Grew.setCell {X : Nat → Prop} {x y : World} (h : Grew X x y) {a : Addr} (ha : X a.block) (v : Value) : Grew X x (y.setCell a v) :=
  ⟨h.os, h.tape, h.output, by rw [show (y.setCell a v).heap.size = y.heap.size from by simp [World.setCell]]; exact h.size, fun i hi hx => (Below.heap_setCell y a v i (fun e => hx (by rw [e]; exact ha))).trans (h.block i hi hx)⟩
theorem Grew.mono {X Y : Nat → Prop} {x y : World} (h : Grew X x y) (hs : ∀ k, X k → Y k) : Grew Y x y := ⟨h.os, h.tape, h.output, h.size, fun i hi hx => h.block i hi (fun e => hx (hs i e))⟩
theorem Grew.row {X : Nat → Prop} {x y : World} (h : Grew X x y) {b : Nat} {t : TypeId} {n : Nat} {f : Nat → Value} (hb : ¬ X b) (r : x.rowIs b t n f) : y.rowIs b t n f := r.of_block (h.block b r.lt hb)
theorem Grew.below {X : Nat → Prop} {x y : World} (h : Grew X x y) {B : Nat} (hx : B ≤ x.heap.size) (hB : ∀ k, X k → B ≤ k) : Below B x y :=
  ⟨h.os, h.tape, h.output, h.size, fun k hk => h.block k (by omega) (fun e => by have := hB k e; omega)⟩

section
variable {B Rd R gb S : Nat} {da : Option Addr} {N cap : Nat} {dat : Nat → Nat} {aE aU : Addr} {G : Nat → Value} {w : World}

set_option maxHeartbeats 2000000 in
set_option maxRecDepth 100000 in
theorem CReady.ral_full (h : CReady B Rd R gb S da N cap dat aE aU G w) (hN : 8 ≤ N) :
    Calls Ybaf.prog 42 #[.iface 30 (.pointer (some ⟨R, 0, none⟩)), .slice (some ⟨Rd, 7, none⟩) 8 24, .int .i64 8] w fun e w' => e = .returned (.tuple #[.int .i64 8, .nilIface]) ∧ CGot B Rd R gb S N dat G w w' := by
  obtain ⟨H, hH⟩ := h.gbr
  obtain ⟨c, hc⟩ : ∃ c, c = min 16 N := ⟨_, rfl⟩
  have HC : Hid (Calls Ybaf.prog 71 #[.pointer (some ⟨R, 0, none⟩), .slice (some ⟨Rd, 7, none⟩) 8 24] w.drew fun e w' => e = .returned (.tuple #[.int .i64 8, .nilIface]) ∧ CGot B Rd R gb S N dat G w w') :=
    (bufFirst B R gb S Rd da N cap c 8 dat H G w.drew ⟨h.br.row⟩ h.cs.drew hH h.rd h.old (by omega) hc (by omega)).mono fun e w' ⟨h1, h2, h3, h4, h5, h6⟩ => ⟨h1, h2, ⟨c, hc, h3, H, h4⟩, ⟨h6.os, h6.tape, h6.output, h6.size, h6.block⟩⟩
  clear h hH hc
  go_enter Ybaf.func42, Ybaf.ntmps42
  go_wp2_with fail
  refine wp_loop_rounds 2 ?_
  rw [rounds_succ]
  go_wp2_with fail
  go_region_with (first | (go_at_call 71; refine (unhide HC).mono ?_; rintro e w1 ⟨rfl, hg⟩; have HG := hide hg; clear hg))
  go_wp2_with fail
  rw [rounds_succ]
  go_wp2_with fail
  go_ret2
  exact ⟨rfl, unhide HG⟩

set_option maxHeartbeats 2000000 in
set_option maxRecDepth 100000 in
theorem CReady.ral_none (h : CReady B Rd R gb S da N cap dat aE aU G w) (hN : N = 0) :
    Calls Ybaf.prog 42 #[.iface 30 (.pointer (some ⟨R, 0, none⟩)), .slice (some ⟨Rd, 7, none⟩) 8 24, .int .i64 8] w fun e w' => e = .returned (.tuple #[.int .i64 0, .iface 81 (.pointer (some aE))]) ∧ CShort B Rd R gb S N G w w' := by
  subst hN
  have HC : Hid (Calls Ybaf.prog 71 #[.pointer (some ⟨R, 0, none⟩), .slice (some ⟨Rd, 7, none⟩) 8 24] w.drew fun e w' => e = .returned (.tuple #[.int .i64 0, .iface 81 (.pointer (some aE))]) ∧ CShort B Rd R gb S 0 G w w' ∧ w'.cell? ⟨0, 0, none⟩ = some (.iface 81 (.pointer (some aE)))) :=
    (bufEnd B R gb S 0 Rd 7 8 24 da 0 cap dat aE w.drew ⟨h.br.row⟩ (by omega) h.cs.drew h.sn.g0 h.old.1 h.sn.B3 (by omega) (by omega)).mono fun e w' ⟨h1, h2⟩ => by
      have hb := h.old
      have h3 := h.sn.B3
      obtain ⟨F, hr, _⟩ := h.br.row
      refine ⟨h1, ⟨⟨[], by simp, ?_⟩, ⟨h2.os, h2.tape, h2.output, h2.size, fun b hb => h2.block b (by omega)⟩⟩, (h2.cell (a := ⟨0, 0, none⟩) (by show ¬ (0 = R); omega)).trans h.sn.g0⟩
      rw [putF_nil]
      exact h2.row (row_ne h.rd hr (by decide)) h.rd
  clear h
  obtain ⟨i, hi, hcmp⟩ := Option.map_eq_some_iff.1 Ybaf.isComp
  go_enter Ybaf.func42, Ybaf.ntmps42
  go_wp2_with fail
  refine wp_loop_rounds 2 ?_
  rw [rounds_succ]
  go_wp2_with fail
  go_region_with (first | (go_at_call 71; refine (unhide HC).mono ?_; rintro e w1 ⟨rfl, hg, y0⟩; have HG := hide hg; clear hg))
  go_wp2_with fail
  rw [rounds_succ]
  go_wp2_with fail
  go_ret2
  exact ⟨rfl, unhide HG⟩

set_option maxHeartbeats 2000000 in
set_option maxRecDepth 100000 in
theorem CReady.ral_some (h : CReady B Rd R gb S da N cap dat aE aU G w) (hN0 : 0 < N) (hN : N < 8) :
    Calls Ybaf.prog 42 #[.iface 30 (.pointer (some ⟨R, 0, none⟩)), .slice (some ⟨Rd, 7, none⟩) 8 24, .int .i64 8] w fun e w' => e = .returned (.tuple #[.int .i64 N, .iface 81 (.pointer (some aU))]) ∧ CShort B Rd R gb S N G w w' := by
  obtain ⟨H, hH⟩ := h.gbr
  have hold := h.old
  have hB3 := h.sn.B3
  have hg0 := h.sn.g0
  have hg3 := h.sn.g3
  have hSB := h.cs.old
  have HC : Hid (Calls Ybaf.prog 71 #[.pointer (some ⟨R, 0, none⟩), .slice (some ⟨Rd, 7, none⟩) 8 24] w.drew fun e w' => e = .returned (.tuple #[.int .i64 N, .nilIface]) ∧ w'.rowIs Rd 44 33 (putF G 7 (bytes dat 0 N)) ∧ BR R gb S N N w' ∧ CSrc B S da N cap dat N w' ∧ Only (fun j => j = Rd ∨ j = R ∨ j = gb ∨ j = S) w w') :=
    (bufFirst B R gb S Rd da N cap N N dat H G w.drew ⟨h.br.row⟩ h.cs.drew hH h.rd h.old (by omega) (by omega) (by omega)).mono fun e w' ⟨h1, h2, h3, h4, h5, h6⟩ => ⟨h1, h2, h3, h5, ⟨h6.os, h6.tape, h6.output, h6.size, h6.block⟩⟩
  clear h hH
  obtain ⟨i, hi, hcmp⟩ := Option.map_eq_some_iff.1 Ybaf.isComp
  obtain ⟨j, hj, hjs⟩ := Option.map_eq_some_iff.1 Ybaf.isSize
  have heq := fun w => run_eql_iface_ptr_same (P := Ybaf.prog) w aE Ybaf.underlying24 Ybaf.underlying81 hi hcmp hj
  have t1 : (N : Int) ≤ 8 := by omega
  have t2 : (N : Int) ≤ 24 := by omega
  have t3 : ¬ 24 = N := by omega
  have t5 : N ≤ 8 := by omega
  clear hi hcmp hj hjs
  go_enter Ybaf.func42, Ybaf.ntmps42
  go_wp2_with fail
  refine wp_loop_rounds 3 ?_
  rw [rounds_succ]
  go_wp2_with fail
  go_region_with (first | (go_at_call 71; refine (unhide HC).mono ?_; rintro e w1 ⟨rfl, h1, h2, h3, h4⟩; have H1 := hide h1; have H2 := hide h2; have H3 := hide h3; have H4 := hide h4; have y0 : w1.cell? ⟨0, 0, none⟩ = some (.iface 81 (.pointer (some aE))) := ((h4.cell (a := ⟨0, 0, none⟩) (by show ¬ (0 = Rd ∨ 0 = R ∨ 0 = gb ∨ 0 = S); omega)).trans hg0); clear h1 h2 h3 h4 HC))
  go_wp2_with fail
  rw [rounds_succ]
  go_wp2_with fail
  go_region_with (first | (go_at_call 71; refine (bufEnd B R gb S N Rd (7 + N) (8 - N) (24 - N) da N cap dat aE _ (by exact ⟨(unhide H2).row⟩) (by omega) (by exact (unhide H3).drew) (by exact y0) hold.1 hB3 (by omega) (by omega)).mono ?_; rintro e w2 ⟨rfl, h5⟩; have z0 : w2.cell? ⟨0, 0, none⟩ = some (.iface 81 (.pointer (some aE))) := ((h5.cell (a := ⟨0, 0, none⟩) (by show ¬ (0 = R); omega)).trans y0); have z3 : w2.cell? ⟨3, 0, none⟩ = some (.iface 81 (.pointer (some aU))) := ((h5.cell (a := ⟨3, 0, none⟩) (by show ¬ (3 = R); omega)).trans (((unhide H4).cell (a := ⟨3, 0, none⟩) (by show ¬ (3 = Rd ∨ 3 = R ∨ 3 = gb ∨ 3 = S); omega)).trans hg3)); have H5 := hide h5; clear h5))
  go_wp2_with fail
  rw [rounds_succ]
  go_wp2_with fail
  go_ret2
  have h5 := unhide H5
  obtain ⟨F, hr, _⟩ := (unhide H2).row
  refine ⟨by simp, ⟨bytes dat 0 N, by rw [bytes_len]; omega, (unhide H1).of_block (h5.block Rd (row_ne (unhide H1) hr (by decide)))⟩, (unhide H4).trans ⟨h5.os, h5.tape, h5.output, h5.size, fun b hb => h5.block b (by omega)⟩⟩

set_option maxRecDepth 100000 in
theorem rf_of {P : World → Prop} {x : Int} {v : Value} {a : Value} {b : Option Addr} {c : Nat} (h : Calls Ybaf.prog 42 #[a, .slice b 8 c, .int .i64 8] w fun e w' => e = .returned (.tuple #[.int .i64 x, v]) ∧ P w') :
    Calls Ybaf.prog 24 #[a, .slice b 8 c] w fun e w' => e = .returned (.tuple #[.int .i64 x, v]) ∧ P w' := by
  have HC := hide h
  clear h
  go_enter Ybaf.func24, Ybaf.ntmps24
  go_wp2_with (go_at_call 42; refine (unhide HC).mono ?_; rintro e w1 ⟨rfl, h1⟩)
  go_ret2
  exact ⟨rfl, h1⟩

theorem CReady.x0 (h : CReady B Rd R gb S da N cap dat aE aU G w) : w.cell? ⟨Rd, 0, none⟩ = some (.pointer (some ⟨R, 0, none⟩)) := by rw [h.rd.cell (by omega), h.g0]

set_option maxRecDepth 100000 in
theorem CReady.read_full (h : CReady B Rd R gb S da N cap dat aE aU G w) (s : ByteArray) (hN : 8 ≤ N) :
    Calls Ybaf.prog 10 #[.pointer (some ⟨Rd, 0, none⟩), .slice (some ⟨Rd, 7, none⟩) 8 24, .string s] w fun e w' => e = .returned .nilIface ∧ CGot B Rd R gb S N dat G w w' := by
  have x0 := h.x0
  have HC := hide (rf_of (h.ral_full hN))
  clear h
  go_enter Ybaf.func10, Ybaf.ntmps10
  go_wp2_with (go_at_call 24; refine (unhide HC).mono ?_; rintro e w1 ⟨rfl, h1⟩)
  go_ret
  exact ⟨rfl, h1⟩

/-- What read leaves where the octets do not suffice. -/
def CCut (Rd R gb S : Nat) (aE : Addr) (G : Nat → Value) (w : World) (e : Ending) (w' : World) : Prop :=
  ∃ p, e = .returned (.iface 47 (.pointer (some ⟨p, 0, none⟩))) ∧ (∃ cs : List Value, cs.length ≤ 8 ∧ w'.rowIs Rd 44 33 (upd (putF G 7 cs) 32 (.iface 81 (.pointer (some aE))))) ∧ Grew (fun j => j = Rd ∨ j = R ∨ j = gb ∨ j = S) w w'

/-- What the walk needs behind ReadFull. -/
theorem CReady.after (h : CReady B Rd R gb S da N cap dat aE aU G w) (hG32 : G 32 = .nilIface) {w1 : World} (s : CShort B Rd R gb S N G w w1) : After B Rd aE aU w1 := by
  obtain ⟨cs, hc, hr⟩ := s.rd
  have hold := h.old
  have hSB := h.cs.old
  have hbel : Below B w w1 := s.only.below (fun k e => by omega)
  have hs := h.sn.below hbel
  have l0 : 0 < w1.heap.size := World.block_lt_of_cell? _ _ hs.g0
  have e32 : putF G 7 cs 32 = .nilIface := by unfold putF; rw [if_neg (by omega)]; exact hG32
  exact ⟨fun o => (World.cell?_alloc_past _ _ _ l0).trans hs.g0, fun o => (World.cell?_alloc_past _ _ _ hr.lt).trans (by rw [hr.cell (by omega), e32]), fun o => (World.frozen?_alloc_past _ _ _ hr.lt).trans (hr.frozen 32), Nat.ne_of_gt hr.lt, by intro o; rw [World.size_alloc]; have := hr.lt; omega, hs.g0, hs.g3⟩
theorem CShort.cut {w1 : World} (s : CShort B Rd R gb S N G w w1) (v : Value) (hv : v = .iface 81 (.pointer (some aE))) (o o' : Obj) : CCut Rd R gb S aE G w (.returned (.iface 47 (.pointer (some ⟨w1.heap.size + 1, 0, none⟩)))) (((w1.alloc o).setCell ⟨Rd, 32, none⟩ v).alloc o').drew := by
  subst hv
  obtain ⟨cs, hc, hr⟩ := s.rd
  exact ⟨_, rfl, ⟨cs, hc, ((row_set (hr.alloc o) 32 _).alloc o').drew⟩, (((s.only.grew.alloc o).setCell (a := ⟨Rd, 32, none⟩) (.inl rfl) _).alloc o').drew⟩

set_option maxHeartbeats 1000000 in
set_option maxRecDepth 100000 in
theorem CReady.read_short (F : Interp) (h : CReady B Rd R gb S da N cap dat aE aU G w) (hF : F.answers w.tape) (hG32 : G 32 = .nilIface) (s : ByteArray) (hN : N < 8) :
    Calls Ybaf.prog 10 #[.pointer (some ⟨Rd, 0, none⟩), .slice (some ⟨Rd, 7, none⟩) 8 24, .string s] w fun e w' => CCut Rd R gb S aE G w e w' := by
  have x0 := h.x0
  have HA : Hid (∀ w1, CShort B Rd R gb S N G w w1 → After B Rd aE aU w1 ∧ F.answers w1.tape ∧ Sents B aE aU w1) := fun w1 st => ⟨h.after hG32 st, by rw [st.only.tape]; exact hF, h.sn.below (st.only.below (fun k e => by have h1 := h.old; have h2 := h.cs.old; omega))⟩
  by_cases hN0 : 0 < N
  · have HC := hide (rf_of (h.ral_some hN0 hN))
    clear h hF hG32
    go_enter Ybaf.func10, Ybaf.ntmps10
    go_wp2_with (first
      | (go_at_call 24; refine (unhide HC).mono ?_; rintro e w1 ⟨rfl, hs⟩
         have ha := (unhide HA _ hs).1
         have hsn := (unhide HA _ hs).2.2
         have HF1 := hide (unhide HA _ hs).2.1
         obtain ⟨cE, tE, hbE⟩ := hsn.hE
         obtain ⟨cU, tU, hbU⟩ := hsn.hU
         have HO := hide (is_other aU aE cU cE tU tE w1 (Ne.symm hsn.ne) hbU hbE)
         have y0 := ha.d0; have y3 := ha.d3; have HA1 := hide ha; have HS := hide hs; clear ha hs hsn hbE hbU)
      | (go_at_call 12; refine (unhide HO).mono ?_; rintro e w2 ⟨rfl, rfl⟩; clear HO)
      | (go_at_call 12; refine (is_same aU _).mono ?_; rintro e w2 ⟨rfl, rfl⟩)
      | (go_at_call 25; refine (cutShort F s N 8 aE Rd _ _ _ (by exact unhide HF1) (by go_simp) (by go_simp) (by go_simp) (by exact (unhide HA1).c0 _) (by exact (unhide HA1).r32 _) (by exact (unhide HA1).f32 _) (by exact (unhide HA1).lt)).mono ?_; rintro e w2 ⟨rfl, tx, rfl⟩))
    go_ret
    exact (unhide HS).cut _ rfl _ _
  · have HC := hide (rf_of (h.ral_none (by omega)))
    clear h hF hG32
    go_enter Ybaf.func10, Ybaf.ntmps10
    go_wp2_with (first
      | (go_at_call 24; refine (unhide HC).mono ?_; rintro e w1 ⟨rfl, hs⟩
         have ha := (unhide HA _ hs).1
         have HF1 := hide (unhide HA _ hs).2.1
         have y0 := ha.d0; have y3 := ha.d3; have HA1 := hide ha; have HS := hide hs; clear ha hs)
      | (go_at_call 12; refine (is_same aE _).mono ?_; rintro e w2 ⟨rfl, rfl⟩)
      | (go_at_call 25; refine (cutShort F s 0 8 aE Rd _ _ _ (by exact unhide HF1) (by go_simp) (by go_simp) (by go_simp) (by exact (unhide HA1).c0 _) (by exact (unhide HA1).r32 _) (by exact (unhide HA1).f32 _) (by exact (unhide HA1).lt)).mono ?_; rintro e w2 ⟨rfl, tx, rfl⟩))
    go_ret
    exact (unhide HS).cut _ rfl _ _
end
end Go.Proofs.YbulkcyvkFmt
