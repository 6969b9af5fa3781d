/-
  (*capture.Reader).read (10).
-/
import Derived.Test.YbulkcyvkFmtFull
import Derived.Test.YbulkcyvkFmtSaid
namespace Go.Proofs.YbulkcyvkFmt
open Go.RowKit Go.Extern.Stop Go.Stop Go.Extern

/-- The two sentinels of package io. -/
structure Sents (B : Nat) (aE aU : Addr) (w : World) : Prop where
  g0 : w.cell? ⟨0, 0, none⟩ = some (.iface 81 (.pointer (some aE)))
  g3 : w.cell? ⟨3, 0, none⟩ = some (.iface 81 (.pointer (some aU)))
  hE : ∃ c t, w.heap[aE.block]? = some (.cells c t (0, 0))
  hU : ∃ c t, w.heap[aU.block]? = some (.cells c t (0, 0))
  lE : aE.block < B
  lU : aU.block < B
  ne : aE ≠ aU
  B3 : 3 < B
theorem Sents.below {B : Nat} {aE aU : Addr} {w w' : World} (h : Sents B aE aU w) (b : Below B w w') : Sents B aE aU w' := by
  obtain ⟨c, t, hE⟩ := h.hE
  obtain ⟨c', t', hU⟩ := h.hU
  exact ⟨(b.cell (p := ⟨0, 0, none⟩) (by have := h.B3; show 0 < B; omega)).trans h.g0, (b.cell (p := ⟨3, 0, none⟩) h.B3).trans h.g3, ⟨c, t, (b.block _ h.lE).trans hE⟩, ⟨c', t', (b.block _ h.lU).trans hU⟩, h.lE, h.lU, h.ne, h.B3⟩

/-- The law's reader, ready to read n octets into block g. -/
structure Ready (B Rd R gb S g : Nat) (da : Option Addr) (N cap k : Nat) (dat : Nat → Nat) (ae aE aU : Addr) (n : Nat) (w : World) : Prop where
  st : Stand B R gb S g da N cap k dat ae n 0 w w
  rd : ∃ G, w.rowIs Rd 44 33 G ∧ G 0 = .pointer (some ⟨R, 0, none⟩) ∧ G 32 = .nilIface
  sn : Sents B aE aU w
  gB : B ≤ g ∧ B ≤ Rd
  gb : g ≠ gb
  n255 : n ≤ 255

theorem Ready.bel {B Rd R gb S g : Nat} {da : Option Addr} {N cap k : Nat} {dat : Nat → Nat} {ae aE aU : Addr} {n m : Nat} {w w1 : World} (h : Ready B Rd R gb S g da N cap k dat ae aE aU n w) (s : Stand B R gb S g da N cap k dat ae n m w w1) : Below B w w1 := by
  obtain ⟨r, wp, cb, hb⟩ := h.st.bst
  have h1 := hb.old
  have h2 := hb.src.old
  have h3 := h.gB
  exact s.only.below (fun k e => by omega)
theorem Ready.row {B Rd R gb S g : Nat} {da : Option Addr} {N cap k : Nat} {dat : Nat → Nat} {ae aE aU : Addr} {n m : Nat} {w w1 : World} (h : Ready B Rd R gb S g da N cap k dat ae aE aU n w) (s : Stand B R gb S g da N cap k dat ae n m w w1) :
    ∃ G, w1.rowIs Rd 44 33 G ∧ G 0 = .pointer (some ⟨R, 0, none⟩) ∧ G 32 = .nilIface := by
  obtain ⟨r, wp, cb, hb⟩ := h.st.bst
  obtain ⟨F, hr, _⟩ := hb.row
  obtain ⟨G, g1, g2⟩ := h.rd
  refine ⟨G, s.only.row ?_ g1, g2⟩
  rintro (e | e | e | e)
  · exact h.st.oct.ne g1 (by decide) e
  · exact row_ne g1 hb.src.row (by decide) e
  · exact row_ne g1 hr (by decide) e
  · exact hb.buf.ne g1 (by decide) e

/-- Enough octets: no error. -/
theorem read_full (B Rd R gb S g : Nat) (da : Option Addr) (N cap k : Nat) (dat : Nat → Nat) (ae aE aU : Addr) (n : Nat) (s : ByteArray) (w : World) (h : Ready B Rd R gb S g da N cap k dat ae aE aU n w) (hE : Ends B ae aE w) (hn : n ≤ N) :
    Calls Ybaf.prog 10 #[.pointer (some ⟨Rd, 0, none⟩), .slice (some ⟨g, 0, none⟩) n n, .string s] w fun e w' =>
      e = .returned .nilIface ∧ Oct g (fil dat n n) w' ∧ w'.cell? ⟨Rd, 32, none⟩ = some .nilIface ∧ Below B w w' := by
  obtain ⟨G, g1, g2, g3⟩ := h.rd
  have x0 : w.cell? ⟨Rd, 0, none⟩ = some (.pointer (some ⟨R, 0, none⟩)) := by rw [g1.cell (by omega), g2]
  have HC : Hid (Calls Ybaf.prog 24 #[.iface 30 (.pointer (some ⟨R, 0, none⟩)), .slice (some ⟨g, 0, none⟩) n n] w fun e w' => e = .returned (.tuple #[.int .i64 n, .nilIface]) ∧ Stand B R gb S g da N cap k dat ae n n w w') :=
    (readFull B R gb S g da N cap k dat ae aE aU n w h.st h.gB.1 h.gb h.n255 h.sn.B3 h.sn.g0 h.sn.g3 hE).mono fun e w' hp => by
      rcases hp with ⟨_, h1, h2⟩ | ⟨h1, _⟩
      · exact ⟨h1, h2⟩
      · omega
  have HH := hide h
  clear h g1 g2 g3 hE
  go_enter Ybaf.func10, Ybaf.ntmps10
  go_wp2_with (go_at_call 24; refine (unhide HC).mono ?_; rintro e w1 ⟨rfl, hs⟩)
  go_ret
  obtain ⟨G, g1, g2, g3⟩ := (unhide HH).row hs
  exact ⟨rfl, hs.oct, by rw [g1.cell (by omega), g3], (unhide HH).bel hs⟩

/-- What the walk needs of the world behind ReadFull. -/
structure After (B Rd : Nat) (aE aU : Addr) (w1 : World) : Prop where
  c0 : ∀ o, (w1.alloc o).cell? ⟨0, 0, none⟩ = some (.iface 81 (.pointer (some aE)))
  r32 : ∀ o, (w1.alloc o).cell? ⟨Rd, 32, none⟩ = some .nilIface
  f32 : ∀ o, (w1.alloc o).frozen? ⟨Rd, 32, none⟩ = false
  lt : w1.heap.size ≠ Rd
  lt2 : ∀ {o}, Rd < (w1.alloc o).heap.size
  d0 : w1.cell? ⟨0, 0, none⟩ = some (.iface 81 (.pointer (some aE)))
  d3 : w1.cell? ⟨3, 0, none⟩ = some (.iface 81 (.pointer (some aU)))
theorem Ready.after {B Rd R gb S g : Nat} {da : Option Addr} {N cap k : Nat} {dat : Nat → Nat} {ae aE aU : Addr} {n m : Nat} {w w1 : World} (h : Ready B Rd R gb S g da N cap k dat ae aE aU n w) (s : Stand B R gb S g da N cap k dat ae n m w w1) : After B Rd aE aU w1 := by
  obtain ⟨G, g1, g2, g3⟩ := h.row s
  have hs := h.sn.below (h.bel s)
  have l0 : 0 < w1.heap.size := World.block_lt_of_cell? _ _ hs.g0
  exact ⟨fun o => (World.cell?_alloc_past _ _ _ l0).trans hs.g0, fun o => (World.cell?_alloc_past _ _ _ g1.lt).trans (by rw [g1.cell (by omega), g3]), fun o => (World.frozen?_alloc_past _ _ _ g1.lt).trans (g1.frozen 32), Nat.ne_of_gt g1.lt, by intro o; rw [World.size_alloc]; have := g1.lt; omega, hs.g0, hs.g3⟩

/-- What read leaves where the octets do not suffice. -/
def Short (B Rd g : Nat) (N : Nat) (dat : Nat → Nat) (n : Nat) (w : World) (v : Value) (T : Nat) (e : Ending) (w' : World) : Prop :=
  ∃ p, w.heap.size ≤ p ∧ e = .returned (.iface T (.pointer (some ⟨p, 0, none⟩))) ∧ Oct g (fil dat N n) w' ∧ w'.cell? ⟨Rd, 32, none⟩ = some (if T = 113 then .iface 113 (.pointer (some ⟨p, 0, none⟩)) else v) ∧ (T = 113 → w'.cell? ⟨p, 1, none⟩ = some v) ∧ Below B w w'

theorem Ready.size {B Rd R gb S g : Nat} {da : Option Addr} {N cap k : Nat} {dat : Nat → Nat} {ae aE aU : Addr} {n m : Nat} {w w1 : World} (h : Ready B Rd R gb S g da N cap k dat ae aE aU n w) (s : Stand B R gb S g da N cap k dat ae n m w w1) : B ≤ w1.heap.size ∧ g ≠ Rd ∧ g < w1.heap.size ∧ w1.heap.size = w.heap.size := by
  obtain ⟨G, g1, g2, g3⟩ := h.row s
  have h1 := h.gB.2
  have h2 := g1.lt
  exact ⟨by omega, Ne.symm (s.oct.ne g1 (by decide)), s.oct.lt, s.only.size⟩
theorem short47 {B Rd R gb S g : Nat} {da : Option Addr} {N cap k : Nat} {dat : Nat → Nat} {ae aE aU : Addr} {n : Nat} {w w1 : World} (h : Ready B Rd R gb S g da N cap k dat ae aE aU n w) (s : Stand B R gb S g da N cap k dat ae n N w w1) (v : Value) (o o' : Obj) :
    Short B Rd g N dat n w v 47 (.returned (.iface 47 (.pointer (some ⟨w1.heap.size + 1, 0, none⟩)))) (((w1.alloc o).setCell ⟨Rd, 32, none⟩ v).alloc o').drew := by
  obtain ⟨G, g1, g2, g3⟩ := h.row s
  obtain ⟨z1, z2, z3, z4⟩ := h.size s
  have e1 : ((w1.alloc o).setCell ⟨Rd, 32, none⟩ v).heap.size = w1.heap.size + 1 := by simp [World.setCell]
  refine ⟨w1.heap.size + 1, by omega, rfl, s.oct.of_block ?_, ?_, fun e => absurd e (by decide), ?_⟩
  · show (((w1.alloc o).setCell ⟨Rd, 32, none⟩ v).alloc o').heap[g]? = _
    rw [Below.heap_alloc _ _ _ (by omega), Below.heap_setCell _ _ _ _ z2, Below.heap_alloc _ _ _ z3]
  · have := ((row_set (g1.alloc o) 32 v).alloc o').drew.cell (i := 32) (by omega)
    rw [this, if_neg (by decide)]
    simp [upd]
  · exact ((((h.bel s).alloc z1 o).setCell (p := ⟨Rd, 32, none⟩) h.gB.2 v).alloc (by omega) o').drew
theorem short113 {B Rd R gb S g : Nat} {da : Option Addr} {N cap k : Nat} {dat : Nat → Nat} {ae aE aU : Addr} {n : Nat} {w w1 : World} (h : Ready B Rd R gb S g da N cap k dat ae aE aU n w) (s : Stand B R gb S g da N cap k dat ae n N w w1) (v : Value) (o : Obj) (tx : ByteArray) :
    Short B Rd g N dat n w v 113 (.returned (.iface 113 (.pointer (some ⟨w1.heap.size + 1, 0, none⟩)))) (((w1.alloc o).alloc (.cells #[.string tx, v] 175)).setCell ⟨Rd, 32, none⟩ (.iface 113 (.pointer (some ⟨w1.heap.size + 1, 0, none⟩)))).drew := by
  obtain ⟨G, g1, g2, g3⟩ := h.row s
  obtain ⟨z1, z2, z3, z4⟩ := h.size s
  have e1 : (w1.alloc o).heap.size = w1.heap.size + 1 := by simp
  have hlt := g1.lt
  refine ⟨w1.heap.size + 1, by omega, rfl, s.oct.of_block ?_, ?_, fun _ => ?_, ?_⟩
  · show (((w1.alloc o).alloc _).setCell _ _).heap[g]? = _
    rw [Below.heap_setCell _ _ _ _ z2, Below.heap_alloc _ _ _ (by omega), Below.heap_alloc _ _ _ z3]
  · have := (row_set ((g1.alloc o).alloc (.cells #[.string tx, v] 175)) 32 (.iface 113 (.pointer (some ⟨w1.heap.size + 1, 0, none⟩)))).drew.cell (i := 32) (by omega)
    rw [this, if_pos rfl]
    simp [upd]
  · show (((w1.alloc o).alloc (.cells #[.string tx, v] 175)).setCell ⟨Rd, 32, none⟩ _).cell? ⟨w1.heap.size + 1, 1, none⟩ = _
    rw [World.cell?_of_block (w := (w1.alloc o).alloc (.cells #[.string tx, v] 175)) (Below.heap_setCell _ _ _ _ (by show w1.heap.size + 1 ≠ Rd; omega))]
    have hb : ((w1.alloc o).alloc (.cells #[.string tx, v] 175)).heap[w1.heap.size + 1]? = some (.cells #[.string tx, v] 175) := by rw [← e1]; exact heap_alloc_new _ _
    simp only [World.cell?, hb]
    rfl
  · exact ((((h.bel s).alloc z1 o).alloc (by omega) _).setCell (p := ⟨Rd, 32, none⟩) h.gB.2 _).drew

set_option maxHeartbeats 1000000 in
set_option maxRecDepth 100000 in
theorem read_eof (F : Interp) (B Rd R gb S g : Nat) (da : Option Addr) (N cap k : Nat) (dat : Nat → Nat) (aE aU : Addr) (n : Nat) (s : ByteArray) (w : World) (hF : F.answers w.tape) (h : Ready B Rd R gb S g da N cap k dat aE aE aU n w) (hn : N < n) :
    Calls Ybaf.prog 10 #[.pointer (some ⟨Rd, 0, none⟩), .slice (some ⟨g, 0, none⟩) n n, .string s] w fun e w' =>
      Short B Rd g N dat n w (.iface 81 (.pointer (some aE))) 47 e w' := by
  obtain ⟨G, g1, g2, g3⟩ := h.rd
  have x0 : w.cell? ⟨Rd, 0, none⟩ = some (.pointer (some ⟨R, 0, none⟩)) := by rw [g1.cell (by omega), g2]
  obtain ⟨er, her⟩ : ∃ er, er = (if 0 < N ∧ aE = aE then aU else aE) := ⟨_, rfl⟩
  have HC : Hid (Calls Ybaf.prog 24 #[.iface 30 (.pointer (some ⟨R, 0, none⟩)), .slice (some ⟨g, 0, none⟩) n n] w fun e w' => e = .returned (.tuple #[.int .i64 N, .iface 81 (.pointer (some er))]) ∧ Stand B R gb S g da N cap k dat aE n N w w') :=
    (readFull B R gb S g da N cap k dat aE aE aU n w h.st h.gB.1 h.gb h.n255 h.sn.B3 h.sn.g0 h.sn.g3 (.inl rfl)).mono fun e w' hp => by
      rcases hp with ⟨h1, _⟩ | ⟨_, h1, h2⟩
      · omega
      · rw [← her] at h1; exact ⟨h1, h2⟩
  have hn255 := h.n255
  have HH := hide h
  have hF' : ∀ w', Stand B R gb S g da N cap k dat aE n N w w' → F.answers w'.tape := fun w' st => by rw [st.only.tape]; exact hF
  have HF' := hide hF'
  clear h g1 g2 g3 hF hF'
  by_cases hN : 0 < N
  · rw [if_pos ⟨hN, rfl⟩] at her
    subst her
    go_enter Ybaf.func10, Ybaf.ntmps10
    go_wp2_with (first
      | (go_at_call 24; refine (unhide HC).mono ?_; rintro e w1 ⟨rfl, hs⟩
         have ha := (unhide HH).after hs
         have hsn := (unhide HH).sn.below ((unhide HH).bel hs)
         have HF1 := hide (unhide HF' _ hs)
         obtain ⟨cE, tE, hbE⟩ := hsn.hE
         obtain ⟨cU, tU, hbU⟩ := hsn.hU
         have HO := hide (is_other er aE cU cE tU tE w1 (Ne.symm hsn.ne) hbU hbE)
         have y0 := ha.d0; have y3 := ha.d3; have HA := hide ha; have HS := hide hs; clear ha hs hsn hbE hbU)
      | (go_at_call 12; refine (unhide HO).mono ?_; rintro e w2 ⟨rfl, rfl⟩; clear HO)
      | (go_at_call 12; refine (is_same er _).mono ?_; rintro e w2 ⟨rfl, rfl⟩)
      | (go_at_call 25; refine (cutShort F s N n aE Rd _ _ _ (by exact unhide HF1) (by go_simp) (by go_simp) (by go_simp) (by exact (unhide HA).c0 _) (by exact (unhide HA).r32 _) (by exact (unhide HA).f32 _) (by exact (unhide HA).lt)).mono ?_; rintro e w2 ⟨rfl, tx, rfl⟩))
    go_ret
    exact short47 (unhide HH) (unhide HS) _ _ _
  · rw [if_neg (fun e => hN e.1)] at her
    subst her
    go_enter Ybaf.func10, Ybaf.ntmps10
    go_wp2_with (first
      | (go_at_call 24; refine (unhide HC).mono ?_; rintro e w1 ⟨rfl, hs⟩
         have ha := (unhide HH).after hs
         have HF1 := hide (unhide HF' _ hs)
         have y0 := ha.d0; have y3 := ha.d3; have HA := hide ha; have HS := hide hs; clear ha hs)
      | (go_at_call 12; refine (is_same er _).mono ?_; rintro e w2 ⟨rfl, rfl⟩)
      | (go_at_call 25; refine (cutShort F s N n er Rd _ _ _ (by exact unhide HF1) (by go_simp) (by go_simp) (by go_simp) (by exact (unhide HA).c0 _) (by exact (unhide HA).r32 _) (by exact (unhide HA).f32 _) (by exact (unhide HA).lt)).mono ?_; rintro e w2 ⟨rfl, tx, rfl⟩))
    go_ret
    exact short47 (unhide HH) (unhide HS) _ _ _

/-- The source's own error. -/
structure Own (ae aE aU : Addr) (t : ByteArray) (w : World) : Prop where
  neE : ae ≠ aE
  neU : ae ≠ aU
  heap : ∃ ca, w.heap[ae.block]? = some (.cells ca 83 (0, 0))
  text : w.cell? ae = some (.string t)

theorem Own.stand {B Rd R gb S g : Nat} {da : Option Addr} {N cap k : Nat} {dat : Nat → Nat} {ae aE aU : Addr} {t : ByteArray} {n m : Nat} {w w1 : World} (o : Own ae aE aU t w) (h : Ready B Rd R gb S g da N cap k dat ae aE aU n w) (s : Stand B R gb S g da N cap k dat ae n m w w1) : Own ae aE aU t w1 := by
  obtain ⟨r, wp, cb, hb⟩ := h.st.bst
  obtain ⟨F, hr, _⟩ := hb.row
  obtain ⟨ca, ho⟩ := o.heap
  have hbk : w1.heap[ae.block]? = w.heap[ae.block]? := s.only.block _ (by
    rintro (e | e | e | e)
    · exact ends_oct ho h.st.oct e
    · exact ends_ne ho hb.src.row (by decide) e
    · exact ends_ne ho hr (by decide) e
    · exact ends_oct ho hb.buf e)
  exact ⟨o.neE, o.neU, ⟨ca, hbk.trans ho⟩, (World.cell?_of_block hbk).trans o.text⟩

/-- What the walk needs of the world behind ReadFull, the source's own error come. -/
theorem own_after {B Rd R gb S g : Nat} {da : Option Addr} {N cap k : Nat} {dat : Nat → Nat} {ae aE aU : Addr} {t : ByteArray} {n m : Nat} {w w1 : World} (o : Own ae aE aU t w) (h : Ready B Rd R gb S g da N cap k dat ae aE aU n w) (s : Stand B R gb S g da N cap k dat ae n m w w1) :
    (Calls Ybaf.prog 12 #[.iface 81 (.pointer (some ae)), .iface 81 (.pointer (some aE))] w1 fun e w' => e = .returned (.bool false) ∧ w1 = w') ∧ (Calls Ybaf.prog 12 #[.iface 81 (.pointer (some ae)), .iface 81 (.pointer (some aU))] w1 fun e w' => e = .returned (.bool false) ∧ w1 = w') ∧ (∀ o, (w1.alloc o).cell? ae = some (.string t)) := by
  have hsn := h.sn.below (h.bel s)
  have ho := o.stand h s
  obtain ⟨cE, tE, hbE⟩ := hsn.hE
  obtain ⟨cU, tU, hbU⟩ := hsn.hU
  obtain ⟨ca, hba⟩ := ho.heap
  exact ⟨is_other ae aE ca cE 83 tE w1 ho.neE hba hbE, is_other ae aU ca cU 83 tU w1 ho.neU hba hbU, fun o => (((Below.refl _ w1).alloc (Nat.le_refl _) o).cell (p := ae) (World.block_lt_of_cell? _ _ ho.text)).trans ho.text⟩

set_option maxHeartbeats 1000000 in
set_option maxRecDepth 100000 in
theorem read_own (F : Interp) (B Rd R gb S g : Nat) (da : Option Addr) (N cap k : Nat) (dat : Nat → Nat) (ae aE aU : Addr) (t : ByteArray) (n : Nat) (s : ByteArray) (w : World) (hF : F.answers w.tape) (h : Ready B Rd R gb S g da N cap k dat ae aE aU n w) (ho : Own ae aE aU t w) (hn : N < n) :
    Calls Ybaf.prog 10 #[.pointer (some ⟨Rd, 0, none⟩), .slice (some ⟨g, 0, none⟩) n n, .string s] w fun e w' =>
      Short B Rd g N dat n w (.iface 81 (.pointer (some ae))) 113 e w' ∧ ∃ ca, w'.heap[ae.block]? = some (.cells ca 83 (0, 0)) := by
  obtain ⟨G, g1, g2, g3⟩ := h.rd
  have x0 : w.cell? ⟨Rd, 0, none⟩ = some (.pointer (some ⟨R, 0, none⟩)) := by rw [g1.cell (by omega), g2]
  have hE : Ends B ae aE w := .inr ⟨ho.neE, ho.heap, h.sn.hE, h.sn.lE⟩
  have HC : Hid (Calls Ybaf.prog 24 #[.iface 30 (.pointer (some ⟨R, 0, none⟩)), .slice (some ⟨g, 0, none⟩) n n] w fun e w' => e = .returned (.tuple #[.int .i64 N, .iface 81 (.pointer (some ae))]) ∧ Stand B R gb S g da N cap k dat ae n N w w') :=
    (readFull B R gb S g da N cap k dat ae aE aU n w h.st h.gB.1 h.gb h.n255 h.sn.B3 h.sn.g0 h.sn.g3 hE).mono fun e w' hp => by
      rcases hp with ⟨h1, _⟩ | ⟨_, h1, h2⟩
      · omega
      · rw [if_neg (fun e => ho.neE e.2)] at h1; exact ⟨h1, h2⟩
  have HH := hide h
  have hF' : ∀ w', Stand B R gb S g da N cap k dat ae n N w w' → F.answers w'.tape := fun w' st => by rw [st.only.tape]; exact hF
  have HF' := hide hF'
  have HW := hide ho
  clear h g1 g2 g3 hF hF' hE ho
  go_enter Ybaf.func10, Ybaf.ntmps10
  go_wp2_with (first
    | (go_at_call 24; refine (unhide HC).mono ?_; rintro e w1 ⟨rfl, hs⟩
       have ha := (unhide HH).after hs
       have HF1 := hide (unhide HF' _ hs)
       have HO := hide (own_after (unhide HW) (unhide HH) hs).1
       have HO2 := hide (own_after (unhide HW) (unhide HH) hs).2.1
       have HT := hide (own_after (unhide HW) (unhide HH) hs).2.2
       have y0 := ha.d0; have y3 := ha.d3; have HA := hide ha; have HS := hide hs; clear ha hs)
    | (go_at_call 12; refine (unhide HO).mono ?_; rintro e w2 ⟨rfl, rfl⟩; clear HO)
    | (go_at_call 12; refine (unhide HO2).mono ?_; rintro e w2 ⟨rfl, rfl⟩; clear HO2)
    | (go_at_call 27; refine (errorf F s t ae _ _ (by exact unhide HF1) (by go_simp) (by go_simp) (by exact unhide HT _)).mono ?_; rintro e w2 ⟨rfl, tx, rfl⟩)
    | (go_at_call 26; refine (stop _ Rd .nilIface _ ⟨_, _, rfl⟩ (by exact (World.cell?_alloc_past _ _ _ (unhide HA).lt2).trans ((unhide HA).r32 _)) (by exact (World.frozen?_alloc_past _ _ _ (unhide HA).lt2).trans ((unhide HA).f32 _))).mono ?_; rintro e w2 ⟨rfl, rfl⟩))
  go_ret
  refine ⟨short113 (unhide HH) (unhide HS) _ _ _, ?_⟩
  have ho := (unhide HW).stand (unhide HH) (unhide HS)
  obtain ⟨G, g1, _⟩ := (unhide HH).row (unhide HS)
  obtain ⟨ca, hba⟩ := ho.heap
  have hlt := World.block_lt_of_cell? _ _ ho.text
  refine ⟨ca, ?_⟩
  show (((w1.alloc _).alloc _).setCell _ _).heap[ae.block]? = _
  rw [Below.heap_setCell _ _ _ _ (ends_ne hba g1 (by decide)), Below.heap_alloc _ _ _ (by rw [World.size_alloc]; omega), Below.heap_alloc _ _ _ hlt]
  exact hba
end Go.Proofs.YbulkcyvkFmt
