/-
  slices.Index at []*worker (9).
-/
import Derived.Test.YbulkcyrqProg
import Derived.WalkKit
import Derived.WalkSpells
namespace Go.Proofs.Ybulkcyrq
open Go.RowKit

theorem hide {p : Prop} (h : p) : Hid p := h
theorem unhide {p : Prop} (h : Hid p) : p := h

set_option maxHeartbeats 400000 in
/-- The first place at which the test says yes. -/
theorem index_hit (G n cap j : Nat) (pa : Addr) (f : Nat → Addr) (q : Nat → Bool) (w : World) (hn : n ≤ 1024) (hc : ∀ i, i < n → w.cell? ⟨G, i, none⟩ = some (.pointer (some (f i))))
    (he : ∀ i, i < n → (binOp .eql 23 (.pointer (some pa)) (.pointer (some (f i)))).run Yba.prog w = .ok (.bool (q i)) w) (hj : j < n) (hq : q j = true) (hb : ∀ i, i < j → q i = false) :
    Calls Yba.prog 9 #[.slice (some ⟨G, 0, none⟩) n cap, .pointer (some pa)] w fun e w' => e = .returned (.int .i64 j) ∧ w = w' := by
  go_enter Yba.func9, Yba.ntmps9
  go_wp2
  go_loop [8] (fun i => ∃ k : Nat, k ≤ j ∧ i = .int .i64 k) (fun i => j - (intOf i).toNat)
  case atStart => exact ⟨0, Nat.zero_le _, rfl⟩
  case round =>
    obtain ⟨k, hk, rfl⟩ := hrel
    have hkn : k < n := by omega
    have c1 := hc k hkn
    have e1 := he k hkn
    by_cases hkj : k < j
    · have q1 := hb k hkj
      rw [q1] at e1
      clear he hc hb hq q1
      generalize f k = fk at *
      go_wp2
      go_round
      case rel => exact ⟨k + 1, by omega, by go_num⟩
      case measure => simp [intOf]; omega
    · have hkj' : k = j := by omega
      subst hkj'
      rw [hq] at e1
      clear he hc hb hq
      generalize f k = fk at *
      go_wp2
      go_ret
      exact ⟨rfl, rfl⟩

set_option maxHeartbeats 400000 in
theorem index_miss (G n cap : Nat) (pa : Addr) (f : Nat → Addr) (w : World) (hn : n ≤ 1024) (hc : ∀ i, i < n → w.cell? ⟨G, i, none⟩ = some (.pointer (some (f i))))
    (he : ∀ i, i < n → (binOp .eql 23 (.pointer (some pa)) (.pointer (some (f i)))).run Yba.prog w = .ok (.bool false) w) :
    Calls Yba.prog 9 #[.slice (some ⟨G, 0, none⟩) n cap, .pointer (some pa)] w fun e w' => e = .returned (.int .i64 (-1)) ∧ w = w' := by
  go_enter Yba.func9, Yba.ntmps9
  go_wp2
  go_loop [8] (fun i => ∃ k : Nat, k ≤ n ∧ i = .int .i64 k) (fun i => n - (intOf i).toNat)
  case atStart => exact ⟨0, Nat.zero_le _, rfl⟩
  case round =>
    obtain ⟨k, hk, rfl⟩ := hrel
    by_cases hkn : k < n
    · have c1 := hc k hkn
      have e1 := he k hkn
      clear he hc
      generalize f k = fk at *
      go_wp2
      go_round
      case rel => exact ⟨k + 1, by omega, by go_num⟩
      case measure => simp [intOf]; omega
    · clear he hc
      go_wp2
      go_ret
      exact ⟨rfl, rfl⟩
end Go.Proofs.Ybulkcyrq
