/-
  zzs5007bsplit (16), zzs5007bmodel (10).
-/
import Derived.Test.YbulkcyrcSub
import Derived.Test.YbulkcyrcEq
namespace Go.Proofs.Ybulkcyrc
open Go.RowKit
open Plain (rng spl)

set_option maxHeartbeats 400000 in
theorem split2 (n : Nat) (w : World) (h1 : 2 ≤ n) (h2 : n ≤ 18446744073709551615) :
    Calls Yba.prog 16 #[.int .u64 n] w fun e w' => e = .returned (.int .u64 ((spl n : Nat) : Int)) ∧ w = w' := by
  go_enter Yba.func16, Yba.ntmps16
  go_wp2
  go_loop [3] (fun k => ∃ j p : Nat, Hid (2 ^ j = p) ∧ 1 ≤ p ∧ p < n ∧ k = .int .u64 p) (fun k => n - (intOf k).toNat)
  case atStart => exact ⟨0, 1, rfl, by omega, by omega, rfl⟩
  case round =>
    obtain ⟨j, p, hj, hp, hpn, rfl⟩ := hrel
    by_cases hle : p ≤ (n - 1) / 2
    · go_wp2
      go_round
      case rel => exact ⟨j + 1, p * 2, by rw [Hid, Nat.pow_succ, hj.out], by omega, by omega, by go_num⟩
      case measure => simp [intOf]; omega
    · have HE := hide (Plain.spl_eq (n := n) (j := j) (by rw [hj.out]; omega) (by rw [hj.out]; omega))
      go_wp2
      go_ret
      exact ⟨ret_int (by rw [unhide HE, hj.out]), rfl⟩

theorem split2_k (hi lo k : Nat) (w : World) (Hk : Hid (spl (hi - lo) = k)) (h1 : lo + 2 ≤ hi) (h2 : hi ≤ 18446744073709551615) :
    Calls Yba.prog 16 #[.int .u64 ((hi : Int) - (lo : Int))] w fun e w' => e = .returned (.int .u64 (k : Int)) ∧ w = w' := by
  rw [show ((hi : Int) - (lo : Int)) = ((hi - lo : Nat) : Int) from by omega]
  refine (split2 (hi - lo) w (by omega) (by omega)).mono ?_
  rintro e w' ⟨rfl, rfl⟩
  exact ⟨by rw [unhide Hk], rfl⟩

/-- The loop's state: what is still to come, and the tail so far. -/
structure St (x y : Nat) (w : World) (f m lo hi : Nat) (c : Bool) (T : List (Nat × Nat)) (v : Value) (wr : World) : Prop where
  eq : rng 64 x 0 y true = rng f m lo hi c ++ T.reverse
  m1 : 1 ≤ m
  mle : lo + m ≤ hi
  hy : hi ≤ y
  fl : hi - lo ≤ 2 ^ f
  len : T.length + f = 64
  ne : T = [] → lo + m < hi
  own : wr.ownsRow w.heap.size 27 2 v T.length (rcells T)
  below : Below w.heap.size w wr

theorem St.start (x y : Nat) (w : World) (h1 : 1 ≤ x) (h2 : x < y) (h3 : y ≤ 18446744073709551615) : St x y w 64 x 0 y true [] (.slice none 0 0) w :=
  ⟨by simp, h1, by omega, Nat.le_refl _, by omega, rfl, fun _ => by omega, World.ownsRow_nil _ _ _ _, Below.refl _ _⟩

theorem st_grow {w wr w1 : World} {v v' : Value} {T : List (Nat × Nat)} {a b : Nat} {o : Obj} (hown : wr.ownsRow w.heap.size 27 2 v T.length (rcells T)) (hbel : Below w.heap.size w wr)
    (hown1 : w1.ownsRow w.heap.size 27 2 v' (T.length + 1) (rcells T ++ [.int .u64 a, .int .u64 b])) (hg : (wr.alloc o).grownBy w1 v.ownBlock) :
    w1.ownsRow w.heap.size 27 2 v' (T ++ [(a, b)]).length (rcells (T ++ [(a, b)])) ∧ Below w.heap.size w w1 := by
  refine ⟨by rw [rcells_snoc, List.length_append]; exact hown1, ?_⟩
  exact Below.grown (hbel.alloc hbel.size o) hg (by have := hbel.size; simp; omega) (fun k e => (hown.lt k e).1)

theorem St.left {x y : Nat} {w : World} {f m lo hi : Nat} {c : Bool} {T : List (Nat × Nat)} {v v' : Value} {wr w1 : World} {o : Obj} {k : Nat} (h : St x y w (f + 1) m lo hi c T v wr) (hk : spl (hi - lo) = k) (hne : lo + m < hi) (hmk : m ≤ k)
    (hown1 : w1.ownsRow w.heap.size 27 2 v' (T.length + 1) (rcells T ++ [.int .u64 ((lo + k : Nat) : Int), .int .u64 (hi : Int)])) (hg : (wr.alloc o).grownBy w1 v.ownBlock) :
    St x y w f m lo (lo + k) c (T ++ [(lo + k, hi)]) v' w1 := by
  have g := st_grow h.own h.below hown1 hg
  have k1 := Plain.spl_lt (n := hi - lo) (by have := h.m1; omega)
  have k4 := Plain.spl_le (n := hi - lo) (f := f) (by have := h.m1; omega) h.fl
  rw [hk] at k1 k4
  refine ⟨?_, h.m1, by omega, by have := h.hy; omega, by omega, by have := h.len; simp; omega, fun e => by simp at e, g.1, g.2⟩
  rw [h.eq, Plain.rng_left _ _ _ _ _ (by omega) (by rw [hk]; exact hmk), hk]
  simp
theorem St.right {x y : Nat} {w : World} {f m lo hi : Nat} {c : Bool} {T : List (Nat × Nat)} {v v' : Value} {wr w1 : World} {o : Obj} {k : Nat} (h : St x y w (f + 1) m lo hi c T v wr) (hk : spl (hi - lo) = k) (hne : lo + m < hi) (hmk : k < m)
    (hown1 : w1.ownsRow w.heap.size 27 2 v' (T.length + 1) (rcells T ++ [.int .u64 (lo : Int), .int .u64 ((lo + k : Nat) : Int)])) (hg : (wr.alloc o).grownBy w1 v.ownBlock) :
    St x y w f (m - k) (lo + k) hi false (T ++ [(lo, lo + k)]) v' w1 := by
  have g := st_grow h.own h.below hown1 hg
  have k1 := Plain.spl_lt (n := hi - lo) (by have := h.m1; omega)
  have k2 := Plain.le_spl (n := hi - lo) (by have := h.m1; omega)
  have k4 := Plain.spl_le (n := hi - lo) (f := f) (by have := h.m1; omega) h.fl
  rw [hk] at k1 k2 k4
  refine ⟨?_, by omega, by omega, h.hy, by omega, by have := h.len; simp; omega, fun e => by simp at e, g.1, g.2⟩
  rw [h.eq, Plain.rng_right _ _ _ _ _ (by omega) (by rw [hk]; omega), hk]
  simp

theorem mod_end {L R F T : List (Nat × Nat)} (h : L = R ++ T.reverse) (hR : R = F) : L = F ++ (T.drop 0).reverse := by rw [h, hR]; rfl
theorem drop_rev (T : List (Nat × Nat)) (j : Nat) (hj : j < T.length) (F : List (Nat × Nat)) : F ++ (T.drop j).reverse = F ++ (T.drop (j + 1)).reverse ++ [((T[j]).1, (T[j]).2)] := by
  rw [List.drop_eq_getElem_cons hj, List.reverse_cons, List.append_assoc]

set_option maxHeartbeats 2000000 in
set_option maxRecDepth 100000 in
theorem model_main (x y : Nat) (w : World) (h1 : 1 ≤ x) (h2 : x < y) (h3 : y ≤ 18446744073709551615) :
    Calls Yba.prog 10 #[.int .u64 x, .int .u64 y] w fun e w' => ∃ v, e = .returned v ∧ w'.ownsRow w.heap.size 27 2 v (rng 64 x 0 y true).length (rcells (rng 64 x 0 y true)) ∧ Below w.heap.size w w' := by
  have hz : ((x : Int) == 0) = false := beq_eq_false_iff_ne.2 (by omega)
  have hd : decide (y ≤ x) = false := by simp; omega
  obtain ⟨i0, hi0, hz0, hz1, hz2⟩ := info_parts info27
  go_enter Yba.func10, Yba.ntmps10
  go_wp2_with fail
  go_loopw [0, 5, 6, 7, 8] (fun sm slo shi sc sv wr => ∃ (f m lo hi : Nat) (c : Bool) (T : List (Nat × Nat)), sm = .int .u64 m ∧ slo = .int .u64 lo ∧ shi = .int .u64 hi ∧ sc = .bool c ∧ St x y w f m lo hi c T sv wr) (fun _ slo shi _ _ _ => (intOf shi - intOf slo).toNat)
  case atStart => exact ⟨64, x, 0, y, true, [], rfl, rfl, rfl, rfl, St.start x y w h1 h2 h3⟩
  case round =>
    obtain ⟨f, m, lo, hi, c, T, rfl, rfl, rfl, rfl, hst⟩ := hrel
    have p1 := hst.m1
    have p2 := hst.mle
    have p3 := hst.hy
    have p4 := hst.len
    have HS := hide hst
    clear hst
    by_cases hne : lo + m < hi
    · have hq : ((m : Int) != (hi : Int) - (lo : Int)) = true := by rw [bne_iff_ne]; omega
      obtain ⟨k, hk⟩ : ∃ k, spl (hi - lo) = k := ⟨_, rfl⟩
      have k1 := Plain.spl_lt (n := hi - lo) (by omega)
      have k3 := Plain.spl_pos (hi - lo)
      rw [hk] at k1 k3
      have Hk := hide hk
      clear hk
      cases f with
      | zero => exact absurd (unhide HS).fl (by simp; omega)
      | succ f =>
        by_cases hmk : m ≤ k
        · go_wp2_with (first
            | (go_at_call 16; refine (split2_k hi lo k _ Hk (by omega) (by omega)).mono ?_; rintro e w' ⟨rfl, rfl⟩)
            | (at_builtin; refine wpList_append_lies _ rfl (.tmp 32) (.tmp 38) 23 rfl w.heap.size 27 i0 _ 2 16 Yba.underlying23 hi0 hz0 hz1 hz2 rfl (by omega) u8 T.length (rcells T) rfl ((unhide HS).own.alloc _) ⟨wr.heap.size, 0, none⟩ 1 1 [.int .u64 ((lo + k : Nat) : Int), .int .u64 (hi : Int)] rfl rfl (World.news_of_block (cs := #[.int .u64 ((lo + k : Nat) : Int), .int .u64 (hi : Int)]) (heap_alloc_new wr _)) (by intro u hu; simp at hu; rcases hu with rfl | rfl <;> rfl) (by omega) (by unfold maxLen; omega) (by omega) (by have := (unhide HS).below.size; simp; omega) (wr.heap.size + 1) (by simp) ?_; intro g cap w1 hown1 hgrow hat hlt1; clear hat))
          go_roundw
          case rel => exact ⟨f, m, lo, lo + k, c, T ++ [(lo + k, hi)], rfl, rfl, by go_num, rfl, (unhide HS).left (unhide Hk) hne hmk hown1 hgrow⟩
          case measure => simp [intOf]; omega
        · go_wp2_with (first
            | (go_at_call 16; refine (split2_k hi lo k _ Hk (by omega) (by omega)).mono ?_; rintro e w' ⟨rfl, rfl⟩)
            | (at_builtin; refine wpList_append_lies _ rfl (.tmp 43) (.tmp 49) 23 rfl w.heap.size 27 i0 _ 2 16 Yba.underlying23 hi0 hz0 hz1 hz2 rfl (by omega) u8 T.length (rcells T) rfl ((unhide HS).own.alloc _) ⟨wr.heap.size, 0, none⟩ 1 1 [.int .u64 (lo : Int), .int .u64 ((lo + k : Nat) : Int)] rfl rfl (World.news_of_block (cs := #[.int .u64 (lo : Int), .int .u64 ((lo + k : Nat) : Int)]) (heap_alloc_new wr _)) (by intro u hu; simp at hu; rcases hu with rfl | rfl <;> rfl) (by omega) (by unfold maxLen; omega) (by omega) (by have := (unhide HS).below.size; simp; omega) (wr.heap.size + 1) (by simp) ?_; intro g cap w1 hown1 hgrow hat hlt1; clear hat))
          go_roundw
          case rel => exact ⟨f, m - k, lo + k, hi, false, T ++ [(lo, lo + k)], by go_num, by go_num, rfl, rfl, (unhide HS).right (unhide Hk) hne (by omega) hown1 hgrow⟩
          case measure => simp [intOf]; omega
    · have hq : ((m : Int) != (hi : Int) - (lo : Int)) = false := by rw [bne_eq_false_iff_eq]; omega
      have hst := unhide HS
      have hTne : 0 < T.length := by
        rcases Nat.eq_zero_or_pos T.length with h | h
        · exact absurd (hst.ne (List.length_eq_zero_iff.1 h)) hne
        · exact h
      have hmd : m = hi - lo := by omega
      rcases hst.own.2 with ⟨_, h0⟩ | ⟨gt, ct, cur, hu8, hgb, hh, hcp, hmx, hcs, htk⟩
      · omega
      have hT1 := fun i hi => (range_at hh htk i hi).1
      have hT2 := fun i hi => (range_at hh htk i hi).2
      have hgt := lt_of_block hh
      have HST : Hid (St x y w f m lo hi c T u8 wr) := hst
      have HMD := hide hmd
      clear hst hgb hh htk hcs HS hmd
      unfold maxLen at hmx
      obtain ⟨wt, hwt⟩ : ∃ wt, wt = wr := ⟨_, rfl⟩
      subst hwt
      subst hu8
      cases c
      · go_wp2_with (at_builtin; refine wpList_append_lies _ rfl (.tmp 59) (.tmp 63) 23 rfl wt.heap.size 27 i0 _ 2 16 Yba.underlying23 hi0 hz0 hz1 hz2 rfl (by omega) (.slice none 0 0) 0 [] rfl (World.ownsRow_nil _ _ _ _) ⟨wt.heap.size, 0, none⟩ 1 1 [.int .u64 (lo : Int), .int .u64 (hi : Int)] rfl rfl (World.news_of_block (cs := #[.int .u64 (lo : Int), .int .u64 (hi : Int)]) (heap_alloc_new wt _)) (by intro u hu; simp at hu; rcases hu with rfl | rfl <;> rfl) (by omega) (by unfold maxLen; omega) (by omega) (by simp) (wt.heap.size + 1) (by simp) ?_; intro g cap w1 hown1 hgrow hat hlt1; clear hat)
        have hF := st_grow (T := []) (World.ownsRow_nil wt wt.heap.size 27 2) (Below.refl _ _) hown1 hgrow
        clear hgrow hown1
        have HE := hide (mod_end HST.out.eq (Plain.rng_done f m lo hi _ (unhide HMD)))
        simp only [List.nil_append] at hF
        rw [if_neg (by decide)] at HE
        have hFl : [(lo, hi)].length ≤ 1 := Nat.le_refl _
        generalize [(lo, hi)] = F at *
        go_loopw [10, 11] (fun so si wr => ∃ i : Nat, i ≤ T.length ∧ si = .int .i64 ((i : Int) - 1) ∧ wr.ownsRow wt.heap.size 27 2 so (F ++ (T.drop i).reverse).length (rcells (F ++ (T.drop i).reverse)) ∧ Below wt.heap.size wt wr) (fun _ si _ => (intOf si + 1).toNat)
        case atStart => exact ⟨T.length, Nat.le_refl _, rfl, by rw [List.drop_length, List.reverse_nil, List.append_nil]; exact hF.1, hF.2⟩
        case round =>
          obtain ⟨i, hi', rfl, hown, hbq⟩ := hrel
          cases i with
          | zero =>
            go_wp2_with fail
            go_ret
            rw [unhide HE]
            exact ⟨_, rfl, owns_base hown HST.out.below.size, HST.out.below.trans (hbq.mono HST.out.below.size)⟩
          | succ j =>
            rw [show (((j + 1 : Nat) : Int) - 1) = (j : Int) from by omega]
            have hj : j < T.length := by omega
            have c1 := (hbq.cell (p := ⟨gt, j * 2, none⟩) hgt).trans (hT1 j hj)
            have c2 := (hbq.cell (p := ⟨gt, j * 2 + 1, none⟩) hgt).trans (hT2 j hj)
            have hlen2 : (F ++ (T.drop (j + 1)).reverse).length ≤ 65 := by simp; omega
            have HD := hide (drop_rev T j hj F)
            generalize (T[j]).1 = a at *
            generalize (T[j]).2 = b at *
            generalize F ++ (T.drop (j + 1)).reverse = M at *
            go_wp2_with (at_builtin; refine wpList_append_lies _ rfl (.tmp 72) (.tmp 77) 23 rfl wt.heap.size 27 i0 _ 2 16 Yba.underlying23 hi0 hz0 hz1 hz2 rfl (by omega) u10 M.length (rcells M) rfl (hown.alloc _) ⟨wr.heap.size, 0, none⟩ 1 1 [.int .u64 (a : Int), .int .u64 (b : Int)] rfl rfl (World.news_of_block (cs := #[.int .u64 (a : Int), .int .u64 (b : Int)]) (heap_alloc_new wr _)) (by intro u hu; simp at hu; rcases hu with rfl | rfl <;> rfl) (by omega) (by unfold maxLen; omega) (by omega) (by have := hbq.size; simp; omega) (wr.heap.size + 1) (by simp) ?_; intro g cap w1 hown1 hgrow hat hlt1; clear hat)
            go_roundw
            case rel => exact ⟨j, by omega, rfl, by rw [unhide HD]; exact (st_grow hown hbq hown1 hgrow).1, (st_grow hown hbq hown1 hgrow).2⟩
            case measure => simp [intOf]
      · have HE := hide (mod_end HST.out.eq (Plain.rng_done f m lo hi _ (unhide HMD)))
        have hF : wt.ownsRow wt.heap.size 27 2 (.slice none 0 0) ([] : List (Nat × Nat)).length (rcells []) ∧ Below wt.heap.size wt wt := ⟨World.ownsRow_nil _ _ _ _, Below.refl _ _⟩
        rw [if_pos rfl] at HE
        have hFl : ([] : List (Nat × Nat)).length ≤ 1 := Nat.zero_le _
        generalize ([] : List (Nat × Nat)) = F at *
        go_wp2_with fail
        go_loopw [10, 11] (fun so si wr => ∃ i : Nat, i ≤ T.length ∧ si = .int .i64 ((i : Int) - 1) ∧ wr.ownsRow wt.heap.size 27 2 so (F ++ (T.drop i).reverse).length (rcells (F ++ (T.drop i).reverse)) ∧ Below wt.heap.size wt wr) (fun _ si _ => (intOf si + 1).toNat)
        case atStart => exact ⟨T.length, Nat.le_refl _, rfl, by rw [List.drop_length, List.reverse_nil, List.append_nil]; exact hF.1, hF.2⟩
        case round =>
          obtain ⟨i, hi', rfl, hown, hbq⟩ := hrel
          cases i with
          | zero =>
            go_wp2_with fail
            go_ret
            rw [unhide HE]
            exact ⟨_, rfl, owns_base hown HST.out.below.size, HST.out.below.trans (hbq.mono HST.out.below.size)⟩
          | succ j =>
            rw [show (((j + 1 : Nat) : Int) - 1) = (j : Int) from by omega]
            have hj : j < T.length := by omega
            have c1 := (hbq.cell (p := ⟨gt, j * 2, none⟩) hgt).trans (hT1 j hj)
            have c2 := (hbq.cell (p := ⟨gt, j * 2 + 1, none⟩) hgt).trans (hT2 j hj)
            have hlen2 : (F ++ (T.drop (j + 1)).reverse).length ≤ 65 := by simp; omega
            have HD := hide (drop_rev T j hj F)
            generalize (T[j]).1 = a at *
            generalize (T[j]).2 = b at *
            generalize F ++ (T.drop (j + 1)).reverse = M at *
            go_wp2_with (at_builtin; refine wpList_append_lies _ rfl (.tmp 72) (.tmp 77) 23 rfl wt.heap.size 27 i0 _ 2 16 Yba.underlying23 hi0 hz0 hz1 hz2 rfl (by omega) u10 M.length (rcells M) rfl (hown.alloc _) ⟨wr.heap.size, 0, none⟩ 1 1 [.int .u64 (a : Int), .int .u64 (b : Int)] rfl rfl (World.news_of_block (cs := #[.int .u64 (a : Int), .int .u64 (b : Int)]) (heap_alloc_new wr _)) (by intro u hu; simp at hu; rcases hu with rfl | rfl <;> rfl) (by omega) (by unfold maxLen; omega) (by omega) (by have := hbq.size; simp; omega) (wr.heap.size + 1) (by simp) ?_; intro g cap w1 hown1 hgrow hat hlt1; clear hat)
            go_roundw
            case rel => exact ⟨j, by omega, rfl, by rw [unhide HD]; exact (st_grow hown hbq hown1 hgrow).1, (st_grow hown hbq hown1 hgrow).2⟩
            case measure => simp [intOf]

theorem model_nil (x y : Int) (w : World) (h : x = 0 ∨ y ≤ x) :
    Calls Yba.prog 10 #[.int .u64 x, .int .u64 y] w fun e w' => e = .returned (.slice none 0 0) ∧ w = w' := by
  by_cases h0 : x = 0
  · subst h0
    go_enter Yba.func10, Yba.ntmps10
    go_wp2_with fail
    go_ret
    exact ⟨rfl, rfl⟩
  · have h1 : y ≤ x := by omega
    have h2 : (x == 0) = false := beq_eq_false_iff_ne.2 h0
    go_enter Yba.func10, Yba.ntmps10
    go_wp2_with fail
    go_ret
    exact ⟨rfl, rfl⟩

end Go.Proofs.Ybulkcyrc
