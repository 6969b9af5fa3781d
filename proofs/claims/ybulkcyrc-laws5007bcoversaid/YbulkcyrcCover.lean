/-
  LawS5007BCover (4): the walk.
-/
import Derived.Test.YbulkcyrcSub11
import Derived.Test.YbulkcyrcEq
import Derived.Deep.RegionHeld3
namespace Go.Proofs.Ybulkcyrc
open Go.RowKit
open Plain (rng spl total)

/-- What lies there behind ConsistencyProof. -/
structure View (L : List (Nat × Nat)) (b g cap g2 cap2 : Nat) (w : World) : Prop where
  log : w.cell? ⟨b, 0, none⟩ = some (.slice (some ⟨g2, 0, none⟩) L.length cap2)
  hash : ∀ i (h : i < L.length), w.rangeAt g (i * 32) (encL (L[i]).1 (L[i]).2)
  lo : ∀ i (h : i < L.length), w.cell? ⟨g2, i * 2, none⟩ = some (.int .u64 (L[i]).1)
  hi : ∀ i (h : i < L.length), w.cell? ⟨g2, i * 2 + 1, none⟩ = some (.int .u64 (L[i]).2)
  bb : b < w.heap.size
  bg : g < w.heap.size
  bg2 : g2 < w.heap.size
  cp : L.length ≤ cap
  cp2 : L.length ≤ cap2
  mx : cap ≤ maxLen
  mx2 : cap2 ≤ maxLen

theorem view_of {B b : Nat} {L : List (Nat × Nat)} {r : Value} {w w1 : World} (h : Subbed B b 0 [] L r w w1) (hL : 0 < L.length) :
    ∃ g cap g2 cap2, r = .slice (some ⟨g, 0, none⟩) L.length cap ∧ View L b g cap g2 cap2 w1 := by
  obtain ⟨v', q1, q2⟩ := h.log
  simp only [Nat.zero_add, List.nil_append] at q2
  rcases q2.2 with ⟨_, h0⟩ | ⟨g2, cap2, cur2, rfl, _, hh2, hc2, hm2, _, ht2⟩
  · omega
  rcases h.res.2 with ⟨_, h0⟩ | ⟨g, cap, cur, rfl, _, hh, hc, hm, _, ht⟩
  · omega
  exact ⟨g, cap, g2, cap2, rfl, cell_of_one q1, fun i hi => hash_at hh ht i hi, fun i hi => (range_at hh2 ht2 i hi).1, fun i hi => (range_at hh2 ht2 i hi).2, lt_of_block q1, lt_of_block hh, lt_of_block hh2, hc, hc2, hm, hm2⟩

theorem View.kept {L : List (Nat × Nat)} {b g cap g2 cap2 : Nat} {w w' : World} (h : View L b g cap g2 cap2 w) (hb : Below w.heap.size w w') : View L b g cap g2 cap2 w' :=
  ⟨(hb.cell (p := ⟨b, 0, none⟩) h.bb).trans h.log, fun i hi j v hv => (hb.cell (p := ⟨g, _, none⟩) h.bg).trans (h.hash i hi j v hv), fun i hi => (hb.cell (p := ⟨g2, _, none⟩) h.bg2).trans (h.lo i hi),
    fun i hi => (hb.cell (p := ⟨g2, _, none⟩) h.bg2).trans (h.hi i hi), by have := hb.size; have := h.bb; omega, by have := hb.size; have := h.bg; omega, by have := hb.size; have := h.bg2; omega, h.cp, h.cp2, h.mx, h.mx2⟩

def tot (L : List (Nat × Nat)) (k : Nat) : Nat := total (L.take k)
theorem tot_succ (L : List (Nat × Nat)) (k : Nat) (h : k < L.length) : tot L (k + 1) = tot L k + ((L[k]).2 - (L[k]).1) := by
  unfold tot
  rw [List.take_succ_eq_append_getElem h, Plain.total_append]
  simp [total]
theorem tot_le (L : List (Nat × Nat)) (k : Nat) : tot L k ≤ total L := by
  unfold tot
  have := Plain.total_append (L.take k) (L.drop k)
  rw [List.take_append_drop] at this
  omega

/-- What the loops want of the list. -/
structure Good (L : List (Nat × Nat)) (y : Nat) : Prop where
  ins : ∀ i (h : i < L.length), (L[i]).1 < (L[i]).2 ∧ (L[i]).2 ≤ y
  ap : ∀ i j (hi : i < L.length) (hj : j < L.length), i < j → (L[i]).2 ≤ (L[j]).1 ∨ (L[j]).2 ≤ (L[i]).1
  tl : total L ≤ y
  len : L.length ≤ 65
  ne : 0 < L.length

theorem cell_later' {W w3 : World} {x : Addr} {v : Value} (hb : Below W.heap.size W w3) (h : W.cell? x = some v) : w3.cell? x = some v :=
  (hb.cell (World.block_lt_of_cell? W x h)).trans h
theorem range_later {W w3 : World} {g o : Nat} {cs : List Value} (hb : Below W.heap.size W w3) (h : W.rangeAt g o cs) : w3.rangeAt g o cs := fun j v hv => cell_later' hb (h j v hv)

theorem size25' (lo hi : Nat) : (Yba.prog.info? 25).map (·.size) = some (encL lo hi).length := by rw [encL_len]; exact size25

theorem and_pred (x : Nat) (h1 : 1 ≤ x) (h3 : x ≤ 18446744073709551615) : (bits .and .u64 (x : Int) ((x : Int) - 1) == 0) = true ↔ x.isPowerOfTwo := by
  rw [show ((x : Int) - 1) = ((x - 1 : Nat) : Int) from by omega, bits_and_u64_nat x (x - 1) (by omega) (by omega), ← Nat.and_sub_one_eq_zero_iff_isPowerOfTwo (by omega : x ≠ 0)]
  simp
theorem ret_true {b : Bool} (h : b = true) : Ending.returned (.bool b) = .returned (.bool true) := by rw [h]

set_option maxHeartbeats 1000000 in
set_option maxRecDepth 100000 in
theorem cover_main (L : List (Nat × Nat)) (x y : Nat) (w : World) (h1 : 1 ≤ x) (h2 : x < y) (h3 : y ≤ 18446744073709551615) (hL : rng 64 x 0 y true = L) (hg : Good L y)
    (hp : x.isPowerOfTwo → total L = y - x) (hnp : ¬ x.isPowerOfTwo → total L = y) :
    Calls Yba.prog 4 #[.int .u64 x, .int .u64 y] w fun e w' => e = .returned (.bool true) ∧ Below w.heap.size w w' := by
  have hmf : ∀ (fn : Fn) (first cap : Array Value) (w : World), (Instr.makeFunc fn first cap).run Yba.prog w = .ok (.func fn first cap) w := fun _ _ _ _ => rfl
  have hz : ((x : Int) == 0) = false := beq_eq_false_iff_ne.2 (by omega)
  have hd : decide (y ≤ x) = false := by simp; omega
  have hcon := con11 w.heap.size w.heap.size x y (.slice none 0 0) 0 [] (w.alloc (.cells #[.slice none 0 0] 23)) (heap_alloc_new _ _) (World.ownsRow_nil _ _ _ _) (Nat.le_refl _) (by omega) h1 h2 h3
  rw [hL] at hcon
  have HC := hide hcon
  clear hcon hL
  have hlen := hg.len
  have hne := hg.ne
  go_enter Yba.func4, Yba.ntmps4
  go_wp2_with (go_at_call 9; refine (unhide HC).mono ?_; rintro e w1 ⟨r, rfl, hs⟩; obtain ⟨g, cap, g2, cap2, rfl, hv⟩ := view_of hs hg.ne; have hlog := hv.log; have hbel := hs.below)
  have hb1 : Below w.heap.size w w1 := ((Below.refl _ _).alloc (Nat.le_refl _) _).trans hbel
  clear HC hs hbel hlog
  go_loopw [8, 9] (fun s i wr => ∃ k : Nat, k ≤ L.length ∧ i = .int .i64 k ∧ s = .int .u64 (tot L k) ∧ Below w1.heap.size w1 wr) (fun _ i _ => L.length - (intOf i).toNat)
  case atStart => exact ⟨0, Nat.zero_le _, rfl, by simp [tot, total], Below.refl _ _⟩
  case round =>
    obtain ⟨k, hk, rfl, rfl, hbr⟩ := hrel
    obtain ⟨wo, hwo⟩ : ∃ wo, wo = wr := ⟨_, rfl⟩
    subst hwo
    have hvr := hv.kept hbr
    have hlog := hvr.log
    by_cases hkl : k < L.length
    · obtain ⟨hi1, hi2⟩ := hg.ins k hkl
      have hsum := tot_succ L k hkl
      have hsl := tot_le L (k + 1)
      have htl := hg.tl
      have hc1 := hvr.lo k hkl
      have hc2 := hvr.hi k hkl
      have hH := hvr.hash k hkl
      generalize hla : (L[k]).1 = a at *
      generalize hlb : (L[k]).2 = c at *
      have Hla := hide hla
      have Hlb := hide hlb
      have Hsum := hide hsum
      have hbd : (tot L k : Int) + ((c : Int) - (a : Int)) ≤ 18446744073709551615 := by omega
      clear hla hlb hsum
      have e0 : (0 : Int) ≤ (k : Int) := by omega
      have e1 : (k : Int) < (L.length : Int) := by omega
      have hu := Yba.underlying25
      have hi := size25' a c
      have hl := encL_len a c
      have ho := encL_one a c
      have q0 : (wo.alloc (.cells #[.int .u64 a, .int .u64 c] 27)).cell? ⟨wo.heap.size, 0, none⟩ = some (.int .u64 a) := by rw [World.cell?_alloc_at _ _ _ _ rfl]; rfl
      have q1 : (wo.alloc (.cells #[.int .u64 a, .int .u64 c] 27)).cell? ⟨wo.heap.size, 1, none⟩ = some (.int .u64 c) := by rw [World.cell?_alloc_at _ _ _ _ rfl]; rfl
      have q2 : (wo.alloc (.cells #[.int .u64 a, .int .u64 c] 27)).rangeAt g (k * 32) (encL a c) := World.rangeAt_alloc hH _
      have heq := equal25 a c
      go_wp2_with fail
      go_region_held3 (fun w' => w'.rangeAt g (k * 32) (encL a c) ∧ w'.cell? ⟨wo.heap.size, 0, none⟩ = some (.int .u64 a) ∧ w'.cell? ⟨wo.heap.size, 1, none⟩ = some (.int .u64 c)) (first | exact ⟨q2, q0, q1⟩ | exact ⟨range_later hbe q2, cell_later' hbe q0, cell_later' hbe q1⟩) (first | (go_at_call 8; refine (benc_any a c _ (by omega) (by omega)).mono ?_; rintro e w3 ⟨rfl, hbe⟩))
      have z0 := cell_later' hbe q0
      have z1 := cell_later' hbe q1
      have hb3 : Below w1.heap.size w1 w3 := (((hbr.alloc hbr.size (.cells #[.int .u64 a, .int .u64 c] 27)).drew).trans (hbe.mono (by have := hbr.size; simp; omega)))
      have hp3 : wo.heap.size < w3.heap.size := by have := hbe.size; simp at this; omega
      have hwr := hbr.size
      clear q0 q1 q2 hH hc1 hc2 heq ho hl hi hu hbe
      go_wp2
      go_loopw [11] (fun j wr => ∃ m : Nat, m ≤ L.length ∧ k < m ∧ j = .int .i64 m ∧ Below w3.heap.size w3 wr) (fun j _ => L.length - (intOf j).toNat)
      case atStart => exact ⟨k + 1, by omega, by omega, by go_num, Below.refl _ _⟩
      case round =>
        obtain ⟨m, hm, hkm, rfl, hbq⟩ := hrel
        have hb4 : Below w1.heap.size w1 wr := hb3.trans (hbq.mono hb3.size)
        have hvq := hv.kept hb4
        have hlogq := hvq.log
        have y0 := (hbq.cell (p := ⟨wo.heap.size, 0, none⟩) hp3).trans z0
        have y1 := (hbq.cell (p := ⟨wo.heap.size, 1, none⟩) hp3).trans z1
        have x0 : ∀ o, (wr.alloc o).cell? ⟨wo.heap.size, 0, none⟩ = some (.int .u64 a) := fun o => (World.cell?_alloc_past _ _ _ (by have := hbq.size; omega)).trans y0
        have x1 : ∀ o, (wr.alloc o).cell? ⟨wo.heap.size, 1, none⟩ = some (.int .u64 c) := fun o => (World.cell?_alloc_past _ _ _ (by have := hbq.size; omega)).trans y1
        by_cases hml : m < L.length
        · have hap := hg.ap k m hkl hml hkm
          have d1 := hvq.lo m hml
          have d2 := hvq.hi m hml
          rw [unhide Hla, unhide Hlb] at hap
          generalize (L[m]).1 = a2 at *
          generalize (L[m]).2 = c2 at *
          by_cases hle : c ≤ a2
          · go_wp2
            go_roundw
            case rel => exact ⟨m + 1, by omega, by omega, by go_num, hbq.alloc hbq.size _⟩
            case measure => simp [intOf]; omega
          · have hle2 : c2 ≤ a := by omega
            go_wp2
            go_roundw
            case rel => exact ⟨m + 1, by omega, by omega, by go_num, hbq.alloc hbq.size _⟩
            case measure => simp [intOf]; omega
        · go_wp2
          go_roundw
          case rel => exact ⟨k + 1, by omega, by go_num, by rw [unhide Hsum]; go_num, hb4⟩
          case measure => simp [intOf]; omega
    · have hkL : tot L k = total L := by unfold tot; rw [List.take_of_length_le (by omega)]
      have ap := and_pred x h1 (by omega)
      have HK := hide hkL
      have HA := hide ap
      have HP := hide hp
      have HN := hide hnp
      clear hkL ap hp hnp
      go_wp2
      · go_ret
        have hq : (bits .and .u64 (x : Int) ((x : Int) - 1) == 0) = true := by assumption
        exact ⟨ret_true (beq_iff_eq.2 (by rw [unhide HK, unhide HP ((unhide HA).1 hq)]; omega)), hb1.trans (hbr.mono hb1.size)⟩
      · go_ret
        have hq : (bits .and .u64 (x : Int) ((x : Int) - 1) == 0) = false := by assumption
        exact ⟨ret_true (beq_iff_eq.2 (by rw [unhide HK, unhide HN (fun h => by rw [(unhide HA).2 h] at hq; cases hq)])), hb1.trans (hbr.mono hb1.size)⟩

theorem good_rng (x y : Nat) (h1 : 1 ≤ x) (h2 : x < y) (h3 : y ≤ 18446744073709551615) : Good (rng 64 x 0 y true) y := by
  have hr := Plain.rng_in 64 x 0 y true h1 (by omega) (by omega)
  have ha := Plain.rng_apart 64 x 0 y true h1 (by omega) (by omega)
  refine ⟨fun i h => ?_, fun i j hi hj hij => ?_, ?_, Plain.rng_len 64 x 0 y true, Plain.rng_ne 63 x 0 y true (by omega)⟩
  · have := hr _ (List.getElem_mem h); omega
  · exact (List.pairwise_iff_getElem.1 ha) i j hi hj hij
  · by_cases hp : x.isPowerOfTwo
    · rw [Plain.rng_total_pow 64 x 0 y h1 (by omega) (by omega) hp]; omega
    · rw [Plain.rng_total_not 64 x 0 y h1 (by omega) (by omega) hp (.inl (by omega))]; omega

set_option maxHeartbeats 1000000 in
set_option maxRecDepth 100000 in
theorem cover_nil (x y : Int) (w : World) (h : x = 0 ∨ y ≤ x) :
    Calls Yba.prog 4 #[.int .u64 x, .int .u64 y] w fun e w' => e = .returned (.bool true) ∧ Below w.heap.size w w' := by
  have hmf : ∀ (fn : Fn) (first cap : Array Value) (w : World), (Instr.makeFunc fn first cap).run Yba.prog w = .ok (.func fn first cap) w := fun _ _ _ _ => rfl
  by_cases h0 : x = 0
  · subst h0
    go_enter Yba.func4, Yba.ntmps4
    go_wp2_with (go_at_call 9; refine (con11_nil _ _ _ _ (by omega)).mono ?_; rintro e w1 ⟨rfl, rfl⟩)
    go_ret
    exact ⟨rfl, (Below.refl _ _).alloc (Nat.le_refl _) _⟩
  · have h1 : y ≤ x := by omega
    have h2 : (x == 0) = false := beq_eq_false_iff_ne.2 h0
    go_enter Yba.func4, Yba.ntmps4
    go_wp2_with (go_at_call 9; refine (con11_nil _ _ _ _ (by omega)).mono ?_; rintro e w1 ⟨rfl, rfl⟩)
    go_ret
    exact ⟨rfl, (Below.refl _ _).alloc (Nat.le_refl _) _⟩

theorem cover_any (x y : Int) (w : World) (h0 : 0 ≤ x) (h1 : 0 ≤ y) (h2 : y ≤ 18446744073709551615) :
    Calls Yba.prog 4 #[.int .u64 x, .int .u64 y] w fun e w' => e = .returned (.bool true) ∧ Below w.heap.size w w' := by
  by_cases h : x = 0 ∨ y ≤ x
  · exact cover_nil x y w h
  obtain ⟨a, rfl⟩ := Int.eq_ofNat_of_zero_le h0
  obtain ⟨b, rfl⟩ := Int.eq_ofNat_of_zero_le h1
  have p1 : 1 ≤ a := by omega
  have p2 : a < b := by omega
  have p3 : b ≤ 18446744073709551615 := by omega
  exact cover_main (rng 64 a 0 b true) a b w p1 p2 p3 rfl (good_rng a b p1 p2 p3)
    (fun hp => by rw [Plain.rng_total_pow 64 a 0 b p1 (by omega) (by omega) hp]; omega)
    (fun hp => by rw [Plain.rng_total_not 64 a 0 b p1 (by omega) (by omega) hp (.inl (by omega))]; omega)

end Go.Proofs.Ybulkcyrc
