/-
  LawS5007BExact (3): the walk.
-/
import Derived.Test.YbulkcyrcSub7
import Derived.Test.YbulkcyrcModel
import Derived.Test.YbulkcyrcView
import Derived.Deep.RegionHeld3
namespace Go.Proofs.Ybulkcyrc
open Go.RowKit
open Plain (rng spl)

set_option maxHeartbeats 2000000 in
set_option maxRecDepth 100000 in
theorem exact_main (L : List (Nat × Nat)) (x y : Nat) (w : World) (h1 : 1 ≤ x) (h2 : x < y) (h3 : y ≤ 18446744073709551615) (hL : rng 64 x 0 y true = L) (hne : 0 < L.length) (hlen : L.length ≤ 65) (hy : ∀ i (h : i < L.length), (L[i]).1 ≤ y ∧ (L[i]).2 ≤ y) :
    Calls Yba.prog 3 #[.int .u64 x, .int .u64 y] w fun e w' => e = .returned (.bool true) ∧ Below w.heap.size w w' := by
  have hmf : ∀ (fn : Fn) (first cap : Array Value) (w : World), (Instr.makeFunc fn first cap).run Yba.prog w = .ok (.func fn first cap) w := fun _ _ _ _ => rfl
  have hcon := con7 w.heap.size w.heap.size x y (.slice none 0 0) 0 [] (w.alloc (.cells #[.slice none 0 0] 23)) (heap_alloc_new _ _) (World.ownsRow_nil _ _ _ _) (Nat.le_refl _) (by omega) h1 h2 h3
  have hmod := fun w => model_main x y w h1 h2 h3
  rw [hL] at hcon hmod
  have HC := hide hcon
  have HM := hide hmod
  have HY := hide hy
  clear hcon hmod hL hy
  have hnz : ((L.length : Int) == 0) = false := beq_eq_false_iff_ne.2 (by omega)
  go_enter Yba.func3, Yba.ntmps3
  go_wp2_with (first
    | (go_at_call 9; refine (unhide HC).mono ?_; rintro e w1 ⟨r, rfl, hs⟩; obtain ⟨g, cap, g2, cap2, rfl, hv⟩ := view_of hs hne; have hbel := hs.below; clear hs)
    | (go_at_call 10; refine (unhide HM _).mono ?_; rintro e w2 ⟨v3, rfl, hown3, hb12⟩; obtain ⟨g3, cap3, cur3, rfl, hg3, hh3, hcp3, hmx3, hcs3, htk3⟩ := (hown3.2).resolve_left (fun h => by omega); have hv2 := hv.kept hb12; have hlog2 := hv2.log))
  have hb1 : Below w.heap.size w w2 := (((Below.refl _ _).alloc (Nat.le_refl _) _).trans hbel).trans (hb12.mono (by have := hbel.size; simp at this; omega))
  have hT1 := fun i hi => (range_at hh3 htk3 i hi).1
  have hT2 := fun i hi => (range_at hh3 htk3 i hi).2
  have hg3' := lt_of_block hh3
  clear HC HM hbel hb12 hv hlog2 hown3 hh3 hcs3 htk3 hg3
  unfold maxLen at hmx3
  go_loopw [9] (fun i wr => ∃ k : Nat, k ≤ L.length ∧ i = .int .i64 k ∧ Below w2.heap.size w2 wr) (fun i _ => L.length - (intOf i).toNat)
  case atStart => exact ⟨0, Nat.zero_le _, rfl, Below.refl _ _⟩
  case round =>
    obtain ⟨k, hk, rfl, hbr⟩ := hrel
    have hvr := hv2.kept hbr
    have hlog := hvr.log
    by_cases hkl : k < L.length
    · obtain ⟨hya, hyb⟩ := unhide HY k hkl
      have hc1 := hvr.lo k hkl
      have hc2 := hvr.hi k hkl
      have hH := hvr.hash k hkl
      have t1 := (hbr.cell (p := ⟨g3, k * 2, none⟩) hg3').trans (hT1 k hkl)
      have t2 := (hbr.cell (p := ⟨g3, k * 2 + 1, none⟩) hg3').trans (hT2 k hkl)
      generalize (L[k]).1 = a at *
      generalize (L[k]).2 = c at *
      have e0 : (0 : Int) ≤ (k : Int) := by omega
      have e1 : (k : Int) < (L.length : Int) := by omega
      have hu := Yba.underlying25
      have hi := size25' a c
      have hl := encL_len a c
      have ho := encL_one a c
      have heq := equal25 a c
      clear hv2 hT1 hT2 HY
      go_wp2_with fail
      go_region_held3 (fun w' => w'.rangeAt g (k * 32) (encL a c) ∧ w'.cell? ⟨g3, k * 2, none⟩ = some (.int .u64 a) ∧ w'.cell? ⟨g3, k * 2 + 1, none⟩ = some (.int .u64 c)) (first | exact ⟨hH, t1, t2⟩ | exact ⟨range_later hbe hH, cell_later' hbe t1, cell_later' hbe t2⟩) (first | (go_at_call 8; refine (benc_any a c _ (by omega) (by omega)).mono ?_; rintro e w3 ⟨rfl, hbe⟩))
      have hb3 : Below w2.heap.size w2 w3 := hbr.drew.trans (hbe.mono hbr.size)
      have z0 := cell_later' hbe hlog
      have z1 := cell_later' hbe hc1
      have z2 := cell_later' hbe hc2
      have z3 := cell_later' hbe t1
      have z4 := cell_later' hbe t2
      clear hH hc1 hc2 t1 t2 heq ho hl hi hu hbe hlog
      go_wp2_with fail
      go_region
      all_goals go_wp2
      all_goals
        go_roundw
        case rel => exact ⟨k + 1, by omega, by go_num, hb3.drew⟩
        case measure => simp [intOf]; omega
    · go_wp2_with fail
      go_ret
      exact ⟨rfl, hb1.trans (hbr.mono hb1.size)⟩

set_option maxHeartbeats 1000000 in
set_option maxRecDepth 100000 in
theorem exact_nil (x y : Int) (w : World) (h : x = 0 ∨ y ≤ x) :
    Calls Yba.prog 3 #[.int .u64 x, .int .u64 y] w fun e w' => e = .returned (.bool true) ∧ Below w.heap.size w w' := by
  have hmf : ∀ (fn : Fn) (first cap : Array Value) (w : World), (Instr.makeFunc fn first cap).run Yba.prog w = .ok (.func fn first cap) w := fun _ _ _ _ => rfl
  have hnil := fun w => Lib.run_eql_slice_nil (P := Yba.prog) w 29 25 none 0 0 0 0 Yba.underlying29
  go_enter Yba.func3, Yba.ntmps3
  go_wp2_with (first
    | (go_at_call 9; refine (con7_nil _ _ _ _ h).mono ?_; rintro e w1 ⟨rfl, rfl⟩)
    | (go_at_call 10; refine (model_nil _ _ _ h).mono ?_; rintro e w1 ⟨rfl, rfl⟩))
  go_ret
  exact ⟨rfl, (Below.refl _ _).alloc (Nat.le_refl _) _⟩

theorem exact_any (x y : Int) (w : World) (h0 : 0 ≤ x) (h1 : 0 ≤ y) (h2 : y ≤ 18446744073709551615) :
    Calls Yba.prog 3 #[.int .u64 x, .int .u64 y] w fun e w' => e = .returned (.bool true) ∧ Below w.heap.size w w' := by
  by_cases h : x = 0 ∨ y ≤ x
  · exact exact_nil x y w h
  obtain ⟨a, rfl⟩ := Int.eq_ofNat_of_zero_le h0
  obtain ⟨b, rfl⟩ := Int.eq_ofNat_of_zero_le h1
  have p1 : 1 ≤ a := by omega
  have p2 : a < b := by omega
  have p3 : b ≤ 18446744073709551615 := by omega
  have hr := Plain.rng_in 64 a 0 b true p1 (by omega) (by omega)
  exact exact_main (rng 64 a 0 b true) a b w p1 p2 p3 rfl (Plain.rng_ne 63 a 0 b true (by omega)) (Plain.rng_len 64 a 0 b true) (fun i hi => by have := hr _ (List.getElem_mem hi); omega)

end Go.Proofs.Ybulkcyrc
