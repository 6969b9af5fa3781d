/-
  THE LAW's WALK (function 3).
-/
import Derived.Test.YbulkcyvkFmtReady
namespace Go.Proofs.YbulkcyvkFmt
open Go.RowKit Go.Extern.Stop Go.Stop Go.Extern
set_option maxRecDepth 100000

/-- The law's data: N octets, below B. -/
structure Data (B : Nat) (a0 : Option Addr) (N cap : Nat) (dat : Nat → Nat) (w : World) : Prop where
  data : ∀ i, i < N → ∃ b o, a0 = some ⟨b, o, none⟩ ∧ b < B ∧ w.cell? ⟨b, o + i, none⟩ = some (.int .u8 (dat i : Int))
  room : N ≤ cap ∧ cap ≤ maxLen ∧ N ≤ 65536
theorem Data.below {B : Nat} {a0 : Option Addr} {N cap : Nat} {dat : Nat → Nat} {w w' : World} (h : Data B a0 N cap dat w) (b : Below B w w') : Data B a0 N cap dat w' :=
  ⟨fun i hi => by obtain ⟨x, o, e, hx, hc⟩ := h.data i hi; exact ⟨x, o, e, hx, (b.cell (p := ⟨x, o + i, none⟩) hx).trans hc⟩, h.room⟩
theorem Data.holds {B : Nat} {a0 : Option Addr} {N cap : Nat} {dat : Nat → Nat} {w : World} (h : Data B a0 N cap dat w) {n : Nat} (hn : n ≤ N) : Holds a0 n dat w := fun i hi => by
  obtain ⟨x, o, e, _, hc⟩ := h.data i (by omega)
  exact ⟨x, o, e, hc⟩
theorem fil_holds {g m n : Nat} {dat : Nat → Nat} {w : World} (h : Oct g (fil dat m n) w) : Holds (some ⟨g, 0, none⟩) m dat w := fun i hi => by
  refine ⟨g, 0, rfl, ?_⟩
  rw [Nat.zero_add, h.cell]
  unfold fil
  rw [List.getElem?_append_left (by rw [bytes_len]; exact hi), bytes_at _ _ _ _ hi, Nat.zero_add]
theorem fil_zero {g m n i : Nat} {dat : Nat → Nat} {w : World} (h : Oct g (fil dat m n) w) (h1 : m ≤ i) (h2 : i < n) : w.cell? ⟨g, i, none⟩ = some (.int .u8 0) := by
  rw [h.cell]
  unfold fil
  rw [List.getElem?_append_right (by rw [bytes_len]; exact h1), bytes_len, List.getElem?_replicate, if_pos (by omega)]

theorem five {B : Nat} {w0 : World} (hB : B ≤ w0.heap.size) (o1 o2 o3 o4 o5 : Obj) : Below B w0 (((((w0.alloc o1).alloc o2).alloc o3).alloc o4).alloc o5) :=
  (((((Below.refl B w0).alloc hB o1).alloc (by simp; omega) o2).alloc (by simp; omega) o3).alloc (by simp; omega) o4).alloc (by simp; omega) o5
theorem long_ok (a0 : Option Addr) (N cap0 : Nat) (n ch : Int) (fail : Bool) (w : World) (hN : 65536 < N) (hm : N ≤ 9223372036854775807) :
    Calls Ybaf.prog 3 #[.slice a0 N cap0, .int .u8 n, .int .u8 ch, .bool fail] w fun e w' => e = .returned (.bool true) ∧ Below w.heap.size w w' := by
  go_enter Ybaf.func3, Ybaf.ntmps3
  go_wp2_with fail
  go_ret
  exact ⟨rfl, Below.refl _ _⟩

set_option maxHeartbeats 2000000 in
set_option maxRecDepth 100000 in
theorem law_full0 (a0 : Option Addr) (N cap0 n ch : Nat) (dat : Nat → Nat) (aE aU : Addr) (w : World) (hD : Data w.heap.size a0 N cap0 dat w) (hn : n ≤ 255) (hch : ch ≤ 255) (sn : Sents w.heap.size aE aU w) (hle : n ≤ N) :
    Calls Ybaf.prog 3 #[.slice a0 N cap0, .int .u8 n, .int .u8 ch, .bool false] w fun e w' => e = .returned (.bool true) ∧ Below w.heap.size w w' := by
  have hN := hD.room.2.2
  have hNc := hD.room.1
  have hcm : cap0 ≤ 9223372036854775807 := hD.room.2.1
  obtain ⟨kq, hkq, hkq7⟩ : ∃ q : Nat, (ch : Int) % 7 = q ∧ q < 7 := ⟨ch % 7, by omega, by omega⟩
  obtain ⟨kk, hkk, hk1, hk7⟩ : ∃ kk : Nat, (1 : Int) + (kq : Int) = (kk : Int) ∧ 1 ≤ kk ∧ kk ≤ 7 := ⟨1 + kq, by omega, by omega, by omega⟩
  have hmk := run_make_row' (P := Ybaf.prog) 22 5 (.int .u8 0) 1 Ybaf.underlying22 info5' rfl .i64 .i64 n (by omega) (by omega)
  have y0 := sn.g0
  have HD := hide hD
  have HSN := hide sn
  clear hD sn
  go_enter Ybaf.func3, Ybaf.ntmps3
  go_wp2_with (first
    | (go_at_call 9; refine (newReader _ _).mono ?_; rintro e w2 ⟨rfl, rfl⟩)
    | (go_at_call 10; refine (read_full w.heap.size (w.heap.size + 3) (w.heap.size + 1) (w.heap.size + 2) w.heap.size (w.heap.size + 4) a0 N cap0 kk dat aE aE aU n _ _ (by exact ready_of w.heap.size w (Nat.le_refl _) aE aU aE (unhide HSN) a0 N cap0 kk dat n (unhide HD).data ⟨hk1, hk7⟩ (unhide HD).room hn _ rfl rfl rfl) (.inl rfl) hle).mono ?_; rintro e w6 ⟨rfl, ho, hend, hb⟩
       have HB := hide ((five (Nat.le_refl _) _ _ _ _ _).trans hb)
       have HO := hide ho
       clear ho hb)
    | (go_at_call 11; refine (bytesEqual _ _ n _ _ dat _ (by exact fil_holds (unhide HO)) (by exact ((unhide HD).below (unhide HB)).holds hle)).mono ?_; rintro e w7 ⟨rfl, rfl⟩))
  go_ret
  exact ⟨rfl, unhide HB⟩

set_option maxHeartbeats 2000000 in
theorem law_eof (F : Interp) (a0 : Option Addr) (N cap0 n ch : Nat) (dat : Nat → Nat) (aE aU : Addr) (w : World) (hF : F.answers w.tape) (hD : Data w.heap.size a0 N cap0 dat w) (hn : n ≤ 255) (hch : ch ≤ 255) (sn : Sents w.heap.size aE aU w) (hle : N < n) :
    Calls Ybaf.prog 3 #[.slice a0 N cap0, .int .u8 n, .int .u8 ch, .bool false] w fun e w' => e = .returned (.bool true) ∧ Below w.heap.size w w' := by
  have hN := hD.room.2.2
  have hNc := hD.room.1
  have hcm : cap0 ≤ 9223372036854775807 := hD.room.2.1
  obtain ⟨kq, hkq, hkq7⟩ : ∃ q : Nat, (ch : Int) % 7 = q ∧ q < 7 := ⟨ch % 7, by omega, by omega⟩
  obtain ⟨kk, hkk, hk1, hk7⟩ : ∃ kk : Nat, (1 : Int) + (kq : Int) = (kk : Int) ∧ 1 ≤ kk ∧ kk ≤ 7 := ⟨1 + kq, by omega, by omega, by omega⟩
  have hmk := run_make_row' (P := Ybaf.prog) 22 5 (.int .u8 0) 1 Ybaf.underlying22 info5' rfl .i64 .i64 n (by omega) (by omega)
  have hNn : N ≤ n := by omega
  have y0 := sn.g0
  have HD := hide hD
  have HSN := hide sn
  obtain ⟨i, hi, hcmp⟩ := Option.map_eq_some_iff.1 Ybaf.isComp
  obtain ⟨j, hj, hjs⟩ := Option.map_eq_some_iff.1 Ybaf.isSize
  have heq := fun w => run_eql_iface_ptr_same (P := Ybaf.prog) w aE Ybaf.underlying24 Ybaf.underlying81 hi hcmp hj
  have HF := hide hF
  clear hD sn hF hi hcmp hj hjs
  go_enter Ybaf.func3, Ybaf.ntmps3
  go_wp2_with (first
    | (go_at_call 9; refine (newReader _ _).mono ?_; rintro e w2 ⟨rfl, rfl⟩)
    | (go_at_call 10; refine (read_eof F w.heap.size (w.heap.size + 3) (w.heap.size + 1) (w.heap.size + 2) w.heap.size (w.heap.size + 4) a0 N cap0 kk dat aE aU n _ _ (by exact unhide HF) (by exact ready_of w.heap.size w (Nat.le_refl _) aE aU aE (unhide HSN) a0 N cap0 kk dat n (unhide HD).data ⟨hk1, hk7⟩ (unhide HD).room hn _ rfl rfl rfl) hle).mono ?_; rintro e w6 ⟨p, hp, rfl, ho, hend, _, hb⟩
       rw [if_neg (by decide)] at hend
       have hbw := (five (Nat.le_refl _) _ _ _ _ _).trans hb
       have z0 := ((unhide HSN).below hbw).g0
       have HB := hide hbw
       have HO := hide ho
       clear ho hb hbw)
    | (go_at_call 11; refine (bytesEqual _ _ N _ _ dat _ (by exact fil_holds (unhide HO)) (by exact ((unhide HD).below (unhide HB)).holds (Nat.le_refl _))).mono ?_; rintro e w7 ⟨rfl, rfl⟩))
  go_loopw [14] (fun s wr => ∃ i : Nat, N ≤ i ∧ i ≤ n ∧ s = .int .i64 i ∧ w6 = wr) (fun s _ => n - (intOf s).toNat)
  case atStart => exact ⟨N, Nat.le_refl _, hNn, rfl, rfl⟩
  case round =>
    obtain ⟨i, h1, h2, rfl, rfl⟩ := hrel
    by_cases hlt : i < n
    · have cz := fil_zero (unhide HO) h1 hlt
      go_wp2_with fail
      go_roundw
      case rel => exact ⟨i + 1, by omega, by omega, by simp, by trivial⟩
      case measure => simp [intOf]; omega
    · have hie : i = n := by omega
      subst hie
      go_wp2_with fail
      go_quiet (fail)
      go_wp2_with fail
      go_ret
      exact ⟨rfl, (unhide HB).os, (unhide HB).tape, (unhide HB).output, (unhide HB).size, (unhide HB).block⟩

theorem made_new {a0 : Option Addr} {N cap0 : Nat} {dat : Nat → Nat} {aE aU : Addr} {s : ByteArray} {w w0 : World} (sn : Sents w.heap.size aE aU w) (hD : Data w.heap.size a0 N cap0 dat w) (h : w.alloc (.cells #[.string s] 83) = w0) :
    Below w.heap.size w w0 ∧ Sents w.heap.size aE aU w0 ∧ Data w.heap.size a0 N cap0 dat w0 ∧ Own ⟨w.heap.size, 0, none⟩ aE aU s w0 := by
  subst h
  have hb : Below w.heap.size w (w.alloc (.cells #[.string s] 83)) := (Below.refl _ w).alloc (Nat.le_refl _) _
  refine ⟨hb, sn.below hb, hD.below hb, fun e => ?_, fun e => ?_, ⟨_, heap_alloc_new _ _⟩, ?_⟩
  · have := sn.lE; rw [← e] at this; exact Nat.lt_irrefl _ this
  · have := sn.lU; rw [← e] at this; exact Nat.lt_irrefl _ this
  · have := heap_alloc_new w (.cells #[.string s] 83)
    simp only [World.cell?, this]
    rfl
theorem Own.below {ae aE aU : Addr} {t : ByteArray} {w w' : World} {B : Nat} (h : Own ae aE aU t w) (b : Below B w w') (hl : ae.block < B) : Own ae aE aU t w' := by
  obtain ⟨ca, hc⟩ := h.heap
  exact ⟨h.neE, h.neU, ⟨ca, (b.block _ hl).trans hc⟩, (b.cell (p := ae) hl).trans h.text⟩

/-- The ends at the world in which read is called. -/
theorem own_ends {a0 : Option Addr} {N cap0 : Nat} {dat : Nat → Nat} {aE aU : Addr} {s : ByteArray} {w w0 : World} {o1 o2 o3 o4 o5 : Obj} (h : Below w.heap.size w w0 ∧ Sents w.heap.size aE aU w0 ∧ Data w.heap.size a0 N cap0 dat w0 ∧ Own ⟨w.heap.size, 0, none⟩ aE aU s w0) :
    Ends w.heap.size ⟨w.heap.size, 0, none⟩ aE (((((w0.alloc o1).alloc o2).alloc o3).alloc o4).alloc o5) := by
  have hl := World.block_lt_of_cell? _ _ h.2.2.2.text
  have ho := h.2.2.2.below (five (Nat.le_refl _) o1 o2 o3 o4 o5) hl
  have hs := h.2.1.below (five h.1.size o1 o2 o3 o4 o5)
  exact .inr ⟨ho.neE, ho.heap, hs.hE, hs.lE⟩

set_option maxHeartbeats 2000000 in
theorem law_full1 (a0 : Option Addr) (N cap0 n ch : Nat) (dat : Nat → Nat) (aE aU : Addr) (w : World) (hD : Data w.heap.size a0 N cap0 dat w) (hn : n ≤ 255) (hch : ch ≤ 255) (sn : Sents w.heap.size aE aU w) (hle : n ≤ N) :
    Calls Ybaf.prog 3 #[.slice a0 N cap0, .int .u8 n, .int .u8 ch, .bool true] w fun e w' => e = .returned (.bool true) ∧ Below w.heap.size w w' := by
  have hN := hD.room.2.2
  have hNc := hD.room.1
  have hcm : cap0 ≤ 9223372036854775807 := hD.room.2.1
  obtain ⟨kq, hkq, hkq7⟩ : ∃ q : Nat, (ch : Int) % 7 = q ∧ q < 7 := ⟨ch % 7, by omega, by omega⟩
  obtain ⟨kk, hkk, hk1, hk7⟩ : ∃ kk : Nat, (1 : Int) + (kq : Int) = (kk : Int) ∧ 1 ≤ kk ∧ kk ≤ 7 := ⟨1 + kq, by omega, by omega, by omega⟩
  have hmk := run_make_row' (P := Ybaf.prog) 22 5 (.int .u8 0) 1 Ybaf.underlying22 info5' rfl .i64 .i64 n (by omega) (by omega)
  have y0 := sn.g0
  have HD := hide hD
  have HSN := hide sn
  clear hD sn
  go_enter Ybaf.func3, Ybaf.ntmps3
  go_wp2_with (first
    | (go_at_call 8; refine (errorsNew _ _).mono ?_; rintro e w0 ⟨rfl, hw0⟩
       have hm := made_new (unhide HSN) (unhide HD) hw0
       have hs0 := hm.1.size
       have HM := hide hm
       clear hm hw0)
    | (go_at_call 9; refine (newReader _ _).mono ?_; rintro e w2 ⟨rfl, rfl⟩)
    | (go_at_call 10; refine (read_full w.heap.size (w0.heap.size + 3) (w0.heap.size + 1) (w0.heap.size + 2) w0.heap.size (w0.heap.size + 4) a0 N cap0 kk dat ⟨w.heap.size, 0, none⟩ aE aU n _ _ (by exact ready_of w.heap.size w0 hs0 aE aU ⟨w.heap.size, 0, none⟩ (unhide HM).2.1 a0 N cap0 kk dat n (unhide HM).2.2.1.data ⟨hk1, hk7⟩ (unhide HM).2.2.1.room hn _ rfl rfl rfl) (by exact own_ends (unhide HM)) hle).mono ?_; rintro e w6 ⟨rfl, ho, hend, hb⟩
       have HB := hide ((unhide HM).1.trans ((five hs0 _ _ _ _ _).trans hb))
       have HO := hide ho
       clear ho hb)
    | (go_at_call 11; refine (bytesEqual _ _ n _ _ dat _ (by exact fil_holds (unhide HO)) (by exact ((unhide HD).below (unhide HB)).holds hle)).mono ?_; rintro e w7 ⟨rfl, rfl⟩))
  go_ret
  exact ⟨rfl, unhide HB⟩

theorem isComp113 : (Ybaf.prog.info? 113).map (·.comparable) = some true := by kernel_rfl
theorem isSize175 : (Ybaf.prog.info? 175).map (·.size) = some 2 := by kernel_rfl
theorem own_ready {a0 : Option Addr} {N cap0 : Nat} {dat : Nat → Nat} {aE aU : Addr} {s : ByteArray} {w w0 : World} {o1 o2 o3 o4 o5 : Obj} (h : Below w.heap.size w w0 ∧ Sents w.heap.size aE aU w0 ∧ Data w.heap.size a0 N cap0 dat w0 ∧ Own ⟨w.heap.size, 0, none⟩ aE aU s w0) :
    Own ⟨w.heap.size, 0, none⟩ aE aU s (((((w0.alloc o1).alloc o2).alloc o3).alloc o4).alloc o5) :=
  h.2.2.2.below (five (Nat.le_refl _) o1 o2 o3 o4 o5) (World.block_lt_of_cell? _ _ h.2.2.2.text)
theorem own_is {B p : Nat} {ae aE aU : Addr} {w6 : World} {ca : Array Value} (sn : Sents B aE aU w6) (hne : ae ≠ aE) (h1 : w6.cell? ⟨p, 1, none⟩ = some (.iface 81 (.pointer (some ae)))) (hca : w6.heap[ae.block]? = some (.cells ca 83 (0, 0))) :
    (Calls Ybaf.prog 12 #[.iface 113 (.pointer (some ⟨p, 0, none⟩)), .iface 81 (.pointer (some ae))] w6 fun e w' => e = .returned (.bool true) ∧ w6 = w') ∧ (Calls Ybaf.prog 12 #[.iface 113 (.pointer (some ⟨p, 0, none⟩)), .iface 81 (.pointer (some aE))] w6 fun e w' => e = .returned (.bool false) ∧ w6 = w') := by
  obtain ⟨cE, tE, hbE⟩ := sn.hE
  exact ⟨is_wrap_same p 0 ae w6 h1, is_wrap_other p 0 aE ae ca cE 83 tE w6 h1 hne hca hbE⟩

set_option maxHeartbeats 2000000 in
theorem law_own (F : Interp) (a0 : Option Addr) (N cap0 n ch : Nat) (dat : Nat → Nat) (aE aU : Addr) (w : World) (hF : F.answers w.tape) (hD : Data w.heap.size a0 N cap0 dat w) (hn : n ≤ 255) (hch : ch ≤ 255) (sn : Sents w.heap.size aE aU w) (hle : N < n) :
    Calls Ybaf.prog 3 #[.slice a0 N cap0, .int .u8 n, .int .u8 ch, .bool true] w fun e w' => e = .returned (.bool true) ∧ Below w.heap.size w w' := by
  have hN := hD.room.2.2
  have hNc := hD.room.1
  have hcm : cap0 ≤ 9223372036854775807 := hD.room.2.1
  obtain ⟨kq, hkq, hkq7⟩ : ∃ q : Nat, (ch : Int) % 7 = q ∧ q < 7 := ⟨ch % 7, by omega, by omega⟩
  obtain ⟨kk, hkk, hk1, hk7⟩ : ∃ kk : Nat, (1 : Int) + (kq : Int) = (kk : Int) ∧ 1 ≤ kk ∧ kk ≤ 7 := ⟨1 + kq, by omega, by omega, by omega⟩
  have hmk := run_make_row' (P := Ybaf.prog) 22 5 (.int .u8 0) 1 Ybaf.underlying22 info5' rfl .i64 .i64 n (by omega) (by omega)
  have hNn : N ≤ n := by omega
  have y0 := sn.g0
  have HD := hide hD
  have HSN := hide sn
  obtain ⟨i, hi, hcmp⟩ := Option.map_eq_some_iff.1 isComp113
  obtain ⟨j, hj, hjs⟩ := Option.map_eq_some_iff.1 isSize175
  have heq := fun w a => run_eql_iface_ptr_same (P := Ybaf.prog) w a Ybaf.underlying24 Ybaf.underlying113 hi hcmp hj
  have HF := hide hF
  clear hD sn hF hi hcmp hj hjs
  go_enter Ybaf.func3, Ybaf.ntmps3
  go_wp2_with (first
    | (go_at_call 8; refine (errorsNew _ _).mono ?_; rintro e w0 ⟨rfl, hw0⟩
       have hm := made_new (unhide HSN) (unhide HD) hw0
       have hs0 := hm.1.size
       have HF0 : Hid (F.answers w0.tape) := (by rw [← hw0]; exact unhide HF)
       have HM := hide hm
       clear hm hw0)
    | (go_at_call 9; refine (newReader _ _).mono ?_; rintro e w2 ⟨rfl, rfl⟩)
    | (go_at_call 10; refine (read_own F w.heap.size (w0.heap.size + 3) (w0.heap.size + 1) (w0.heap.size + 2) w0.heap.size (w0.heap.size + 4) a0 N cap0 kk dat ⟨w.heap.size, 0, none⟩ aE aU _ n _ _ (by exact unhide HF0) (by exact ready_of w.heap.size w0 hs0 aE aU ⟨w.heap.size, 0, none⟩ (unhide HM).2.1 a0 N cap0 kk dat n (unhide HM).2.2.1.data ⟨hk1, hk7⟩ (unhide HM).2.2.1.room hn _ rfl rfl rfl) (by exact own_ready (unhide HM)) hle).mono ?_; rintro e w6 ⟨⟨p, hp, rfl, ho, hend, hp1, hb⟩, ca, hca⟩
       rw [if_pos rfl] at hend
       have hbw := (unhide HM).1.trans ((five hs0 _ _ _ _ _).trans hb)
       have z0 := ((unhide HSN).below hbw).g0
       have hI := own_is ((unhide HSN).below hbw) (unhide HM).2.2.2.neE (hp1 rfl) hca
       have HI1 := hide hI.1
       have HI2 := hide hI.2
       have HB := hide hbw
       have HO := hide ho
       clear ho hb hbw hI hp1 hca)
    | (go_at_call 11; refine (bytesEqual _ _ N _ _ dat _ (by exact fil_holds (unhide HO)) (by exact ((unhide HD).below (unhide HB)).holds (Nat.le_refl _))).mono ?_; rintro e w7 ⟨rfl, rfl⟩))
  go_loopw [14] (fun s wr => ∃ i : Nat, N ≤ i ∧ i ≤ n ∧ s = .int .i64 i ∧ w6 = wr) (fun s _ => n - (intOf s).toNat)
  case atStart => exact ⟨N, Nat.le_refl _, hNn, rfl, rfl⟩
  case round =>
    obtain ⟨i, h1, h2, rfl, rfl⟩ := hrel
    by_cases hlt : i < n
    · have cz := fil_zero (unhide HO) h1 hlt
      go_wp2_with fail
      go_roundw
      case rel => exact ⟨i + 1, by omega, by omega, by simp, by trivial⟩
      case measure => simp [intOf]; omega
    · have hie : i = n := by omega
      subst hie
      go_wp2_with (first
        | (go_at_call 12; refine (unhide HI1).mono ?_; rintro e w7 ⟨rfl, rfl⟩; clear HI1)
        | (go_at_call 12; refine (unhide HI2).mono ?_; rintro e w7 ⟨rfl, rfl⟩; clear HI2))
      go_ret
      exact ⟨rfl, unhide HB⟩
end Go.Proofs.YbulkcyvkFmt
