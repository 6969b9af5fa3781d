/-
  subproof (15) over the closure 7, and ConsistencyProof (9).
-/
import Derived.Test.YbulkcyrcSub
namespace Go.Proofs.Ybulkcyrc
open Go.RowKit
open Plain (rng spl)

set_option maxHeartbeats 1000000 in
theorem sub7_done (f B b m lo hi : Nat) (c : Bool) (v : Value) (n : Nat) (xs : List Value) (w : World) (hb : w.heap[b]? = some (.cells #[v] 23 (0, 0))) (hown : w.ownsRow B 27 2 v n xs) (hB : B ≤ b)
    (hn : n + f + 1 ≤ 200) (h1 : 1 ≤ m) (h2 : lo + m ≤ hi) (h4 : hi ≤ 18446744073709551615) (hm : m = hi - lo) :
    Calls Yba.prog 15 #[.int .u64 m, .int .u64 lo, .int .u64 hi, .bool c, .func (.func 7) #[] #[.pointer (some ⟨b, 0, none⟩)]] w fun e w' =>
      ∃ r, e = .returned r ∧ Subbed B b n xs (rng f m lo hi c) r w w' := by
  have hlt := lt_of_block hb
  have hq : ((m : Int) == (hi : Int) - (lo : Int)) = true := beq_iff_eq.2 (by omega)
  rw [Plain.rng_done _ _ _ _ _ hm]
  have h3 : hi ≤ lo + m := by omega
  have hL := encL_len
  have hF := fold_enc
  clear hm
  cases c
  · have Hb := hide hb
    clear hb
    go_enter Yba.func15, Yba.ntmps15
    go_wp2_with (go_at_call 7; refine (clo7Z B b lo hi v n xs _ (unhide Hb) hown hB (by omega) (by omega) (by omega) (by omega) (by omega)).mono ?_; rintro e w1 ⟨rfl, hk⟩)
    go_ret
    exact ⟨_, rfl, sub_last hk (by have := hk.fr.size; omega)⟩
  · go_enter Yba.func15, Yba.ntmps15
    go_wp2_with fail
    go_ret
    exact ⟨_, rfl, Logged.refl hb hown, World.ownsRow_nil _ _ _ _⟩

set_option maxHeartbeats 2000000 in
theorem sub7_left (B b m lo hi k : Nat) (L : List (Nat × Nat)) (c : Bool) (n : Nat) (xs : List Value) (w : World)
    (h : Calls Yba.prog 15 #[.int .u64 m, .int .u64 lo, .int .u64 ((lo : Int) + (k : Int)), .bool c, .func (.func 7) #[] #[.pointer (some ⟨b, 0, none⟩)]] w fun e w' => ∃ r, e = .returned r ∧ Subbed B b n xs L r w w')
    (Hk : Hid (spl (hi - lo) = k)) (hB : B ≤ b) (hn : n + L.length ≤ 200) (h1 : 1 ≤ m) (hmk : m ≤ k) (h2 : lo + m ≤ hi) (h4 : hi ≤ 18446744073709551615) (hk : lo + k < hi) (hne : ((m : Int) == (hi : Int) - (lo : Int)) = false)
    (hlt : b < w.heap.size) (hk1 : 1 ≤ k) :
    Calls Yba.prog 15 #[.int .u64 m, .int .u64 lo, .int .u64 hi, .bool c, .func (.func 7) #[] #[.pointer (some ⟨b, 0, none⟩)]] w fun e w' =>
      ∃ r, e = .returned r ∧ Subbed B b n xs (L ++ [(lo + k, hi)]) r w w' := by
  have Hsub := hide h
  clear h
  have hL := encL_len
  have hF := fold_enc
  obtain ⟨i0, hi0, hz0, hz1, hz2⟩ := info_parts info25
  go_enter Yba.func15, Yba.ntmps15
  go_wp2_with (first
    | (go_at_call 18; refine (split_k hi lo k _ Hk (by omega) (by omega)).mono ?_; rintro e w' ⟨rfl, rfl⟩)
    | (go_at_call 15; refine (unhide Hsub).mono ?_; rintro e w1 ⟨r, rfl, hs⟩; obtain ⟨v1, q1, q2⟩ := hs.log; have Q1 := hide q1; clear q1)
    | (go_at_call 7; refine (clo7Z B b _ _ v1 (n + L.length) (xs ++ rcells L) _ (unhide Q1) q2 hB (by omega) (by omega) (by omega) (by omega) (by omega)).mono ?_; rintro e w2 ⟨rfl, hk2⟩; have hs2 := hk2.fr.size; have hs1 := hs.fr.size)
    | (at_builtin; refine wpList_append_lies _ rfl (.tmp 37) (.tmp 44) 29 rfl w.heap.size 25 i0 _ 32 32 Yba.underlying29 hi0 hz0 hz1 hz2 (by simp [Value.cells]) (by omega) r L.length (ecells L) rfl ((hk2.fr.owns hs.res (unhide Q1)).alloc _) ⟨w2.heap.size, 0, none⟩ 1 1 (encL (lo + k) hi) rfl (by simp [hL]) (World.news_of_block (cs := (encL (lo + k) hi).toArray) (heap_alloc_new w2 _)) (encL_one _ _) (by omega) (by unfold maxLen; omega) (by omega) (by simp; omega) (w2.heap.size + 1) (by simp) ?_; intro g cap w3 hown3 hgrow hat hlt3))
  go_ret
  have hk3 : Logged B b (n + L.length) (xs ++ rcells L) [(lo + k, hi)] w1 w2 := by
    rw [show ((lo : Int) + (k : Int)).toNat = lo + k from by omega] at hk2
    exact hk2
  exact ⟨_, rfl, sub_step hs hk3 (by omega) hown3 hgrow⟩

set_option maxHeartbeats 2000000 in
theorem sub7_right (B b m lo hi k : Nat) (L : List (Nat × Nat)) (c : Bool) (n : Nat) (xs : List Value) (w : World)
    (h : Calls Yba.prog 15 #[.int .u64 ((m : Int) - (k : Int)), .int .u64 ((lo : Int) + (k : Int)), .int .u64 hi, .bool false, .func (.func 7) #[] #[.pointer (some ⟨b, 0, none⟩)]] w fun e w' => ∃ r, e = .returned r ∧ Subbed B b n xs L r w w')
    (Hk : Hid (spl (hi - lo) = k)) (hB : B ≤ b) (hn : n + L.length ≤ 200) (h1 : 1 ≤ m) (hmk : k < m) (h2 : lo + m ≤ hi) (h4 : hi ≤ 18446744073709551615) (hk : lo + k < hi) (hne : ((m : Int) == (hi : Int) - (lo : Int)) = false)
    (hlt : b < w.heap.size) (hk1 : 1 ≤ k) :
    Calls Yba.prog 15 #[.int .u64 m, .int .u64 lo, .int .u64 hi, .bool c, .func (.func 7) #[] #[.pointer (some ⟨b, 0, none⟩)]] w fun e w' =>
      ∃ r, e = .returned r ∧ Subbed B b n xs (L ++ [(lo, lo + k)]) r w w' := by
  have Hsub := hide h
  clear h
  have hL := encL_len
  have hF := fold_enc
  obtain ⟨i0, hi0, hz0, hz1, hz2⟩ := info_parts info25
  go_enter Yba.func15, Yba.ntmps15
  go_wp2_with (first
    | (go_at_call 18; refine (split_k hi lo k _ Hk (by omega) (by omega)).mono ?_; rintro e w' ⟨rfl, rfl⟩)
    | (go_at_call 15; refine (unhide Hsub).mono ?_; rintro e w1 ⟨r, rfl, hs⟩; obtain ⟨v1, q1, q2⟩ := hs.log; have Q1 := hide q1; clear q1)
    | (go_at_call 7; refine (clo7Z B b _ _ v1 (n + L.length) (xs ++ rcells L) _ (unhide Q1) q2 hB (by omega) (by omega) (by omega) (by omega) (by omega)).mono ?_; rintro e w2 ⟨rfl, hk2⟩; have hs2 := hk2.fr.size; have hs1 := hs.fr.size)
    | (at_builtin; refine wpList_append_lies _ rfl (.tmp 54) (.tmp 61) 29 rfl w.heap.size 25 i0 _ 32 32 Yba.underlying29 hi0 hz0 hz1 hz2 (by simp [Value.cells]) (by omega) r L.length (ecells L) rfl ((hk2.fr.owns hs.res (unhide Q1)).alloc _) ⟨w2.heap.size, 0, none⟩ 1 1 (encL lo (lo + k)) rfl (by simp [hL]) (World.news_of_block (cs := (encL lo (lo + k)).toArray) (heap_alloc_new w2 _)) (encL_one _ _) (by omega) (by unfold maxLen; omega) (by omega) (by simp; omega) (w2.heap.size + 1) (by simp) ?_; intro g cap w3 hown3 hgrow hat hlt3))
  go_ret
  have hk3 : Logged B b (n + L.length) (xs ++ rcells L) [(lo, lo + k)] w1 w2 := by
    rw [show ((lo : Int) + (k : Int)).toNat = lo + k from by omega] at hk2
    exact hk2
  exact ⟨_, rfl, sub_step hs hk3 (by omega) hown3 hgrow⟩

set_option maxHeartbeats 2000000 in
set_option maxRecDepth 100000 in
theorem sub7 (f : Nat) : ∀ (B b : Nat) (m lo hi : Int) (c : Bool) (v : Value) (n : Nat) (xs : List Value) (w : World), w.heap[b]? = some (.cells #[v] 23 (0, 0)) → w.ownsRow B 27 2 v n xs → B ≤ b →
    n + f + 1 ≤ 200 → 1 ≤ m → m ≤ hi - lo → 0 ≤ lo → hi ≤ 18446744073709551615 → (hi - lo).toNat ≤ 2 ^ f →
    Calls Yba.prog 15 #[.int .u64 m, .int .u64 lo, .int .u64 hi, .bool c, .func (.func 7) #[] #[.pointer (some ⟨b, 0, none⟩)]] w fun e w' =>
      ∃ r, e = .returned r ∧ Subbed B b n xs (rng f m.toNat lo.toNat hi.toNat c) r w w' := by
  induction f with
  | zero =>
    intro B b m lo hi c v n xs w hb hown hB hn h1 h2 h3 h4 h5
    obtain ⟨m, rfl⟩ := Int.eq_ofNat_of_zero_le (show 0 ≤ m by omega)
    obtain ⟨lo, rfl⟩ := Int.eq_ofNat_of_zero_le h3
    obtain ⟨hi, rfl⟩ := Int.eq_ofNat_of_zero_le (show 0 ≤ hi by omega)
    exact sub7_done 0 B b m lo hi c v n xs w hb hown hB hn (by omega) (by omega) (by omega) (by simp at h5; omega)
  | succ f ih =>
    intro B b m lo hi c v n xs w hb hown hB hn h1 h2 h3 h4 h5
    obtain ⟨m, rfl⟩ := Int.eq_ofNat_of_zero_le (show 0 ≤ m by omega)
    obtain ⟨lo, rfl⟩ := Int.eq_ofNat_of_zero_le h3
    obtain ⟨hi, rfl⟩ := Int.eq_ofNat_of_zero_le (show 0 ≤ hi by omega)
    by_cases hm : m = hi - lo
    · exact sub7_done (f + 1) B b m lo hi c v n xs w hb hown hB hn (by omega) (by omega) (by omega) hm
    have hne : ((m : Int) == (hi : Int) - (lo : Int)) = false := beq_eq_false_iff_ne.2 (by omega)
    have hlt := lt_of_block hb
    have k1 := Plain.spl_lt (n := hi - lo) (by omega)
    have k2 := Plain.le_spl (n := hi - lo) (by omega)
    have k3 := Plain.spl_pos (hi - lo)
    have k4 := Plain.spl_le (n := hi - lo) (f := f) (by omega) (by omega)
    rw [show ((m : Int)).toNat = m from rfl, show ((lo : Int)).toNat = lo from rfl, show ((hi : Int)).toNat = hi from rfl]
    by_cases hmk : m ≤ spl (hi - lo)
    · rw [Plain.rng_left _ _ _ _ _ hm hmk]
      obtain ⟨k, hk⟩ : ∃ k, spl (hi - lo) = k := ⟨_, rfl⟩
      rw [hk] at k1 k2 k3 k4 hmk ⊢
      have Hk := hide hk
      have hsub := ih B b m lo ((lo : Int) + (k : Int)) c v n xs w hb hown hB (by omega) (by omega) (by omega) (by omega) (by omega) (by omega)
      rw [show ((lo : Int) + (k : Int)).toNat = lo + k from by omega, show ((m : Int)).toNat = m from rfl, show ((lo : Int)).toNat = lo from rfl] at hsub
      have hlen := Plain.rng_len f m lo (lo + k) c
      obtain ⟨L, hLe⟩ : ∃ L, rng f m lo (lo + k) c = L := ⟨_, rfl⟩
      rw [hLe] at hsub hlen ⊢
      clear hk hLe hb hown ih hm h5 k4
      exact sub7_left B b m lo hi k L c n xs w hsub Hk hB (by omega) (by omega) hmk (by omega) (by omega) (by omega) hne hlt (by omega)
    · rw [Plain.rng_right _ _ _ _ _ hm hmk]
      obtain ⟨k, hk⟩ : ∃ k, spl (hi - lo) = k := ⟨_, rfl⟩
      rw [hk] at k1 k2 k3 k4 hmk ⊢
      have Hk := hide hk
      have hsub := ih B b ((m : Int) - (k : Int)) ((lo : Int) + (k : Int)) hi false v n xs w hb hown hB (by omega) (by omega) (by omega) (by omega) (by omega) (by omega)
      rw [show ((lo : Int) + (k : Int)).toNat = lo + k from by omega, show ((m : Int) - (k : Int)).toNat = m - k from by omega, show ((hi : Int)).toNat = hi from rfl] at hsub
      have hlen := Plain.rng_len f (m - k) (lo + k) hi false
      obtain ⟨L, hLe⟩ : ∃ L, rng f (m - k) (lo + k) hi false = L := ⟨_, rfl⟩
      rw [hLe] at hsub hlen ⊢
      clear hk hLe hb hown ih hm h5 k4
      exact sub7_right B b m lo hi k L c n xs w hsub Hk hB (by omega) (by omega) (by omega) (by omega) (by omega) (by omega) hne hlt (by omega)

theorem con7_nil (x y : Int) (F : Value) (w : World) (h : x = 0 ∨ y ≤ x) :
    Calls Yba.prog 9 #[.int .u64 x, .int .u64 y, F] w fun e w' => e = .returned (.slice none 0 0) ∧ w = w' := by
  by_cases h0 : x = 0
  · subst h0
    go_enter Yba.func9, Yba.ntmps9
    go_wp2_with fail
    go_ret
    exact ⟨rfl, rfl⟩
  · have h1 : y ≤ x := by omega
    have h2 : (x == 0) = false := beq_eq_false_iff_ne.2 h0
    go_enter Yba.func9, Yba.ntmps9
    go_wp2_with fail
    go_ret
    exact ⟨rfl, rfl⟩

theorem con7 (B b x y : Nat) (v : Value) (n : Nat) (xs : List Value) (w : World) (hb : w.heap[b]? = some (.cells #[v] 23 (0, 0))) (hown : w.ownsRow B 27 2 v n xs) (hB : B ≤ b) (hn : n ≤ 100)
    (h1 : 1 ≤ x) (h2 : x < y) (h3 : y ≤ 18446744073709551615) :
    Calls Yba.prog 9 #[.int .u64 x, .int .u64 y, .func (.func 7) #[] #[.pointer (some ⟨b, 0, none⟩)]] w fun e w' =>
      ∃ r, e = .returned r ∧ Subbed B b n xs (rng 64 x 0 y true) r w w' := by
  have hz : ((x : Int) == 0) = false := beq_eq_false_iff_ne.2 (by omega)
  have h := sub7 64 B b x 0 y true v n xs w hb hown hB (by omega) (by omega) (by omega) (by omega) (by omega) (by rw [show ((y : Int) - 0).toNat = y from by omega]; omega)
  rw [show ((x : Int)).toNat = x from rfl, show ((0 : Int)).toNat = 0 from rfl, show ((y : Int)).toNat = y from rfl] at h
  generalize rng 64 x 0 y true = L at h ⊢
  have H := hide h
  clear h hb hown
  go_enter Yba.func9, Yba.ntmps9
  go_wp2_with (go_at_call 15; refine (unhide H).mono ?_; rintro e w1 ⟨r, rfl, hs⟩)
  go_ret
  exact ⟨r, rfl, hs⟩

end Go.Proofs.Ybulkcyrc
