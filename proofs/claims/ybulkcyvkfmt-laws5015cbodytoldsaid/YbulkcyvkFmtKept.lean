/-
  zzs5015ckept (21); the law's reader as the law makes it.
-/
import Derived.Test.YbulkcyvkFmtNum
namespace Go.Proofs.YbulkcyvkFmt
open Go.RowKit
set_option maxRecDepth 100000

/-- A slice of pairs (uint16, uint32) holds L, Z. -/
def Pairs (a : Option Addr) (n : Nat) (L Z : Nat → Nat) (w : World) : Prop := ∀ i, i < n → ∃ b o, a = some ⟨b, o, none⟩ ∧ w.cell? ⟨b, o + i * 2, none⟩ = some (.int .u16 (L i : Int)) ∧ w.cell? ⟨b, o + i * 2 + 1, none⟩ = some (.int .u32 (Z i : Int))

set_option maxHeartbeats 2000000 in
theorem ckept (ga pa : Option Addr) (gl gc pl pc n0 : Nat) (L Z : Nat → Nat) (w : World) (hg : Pairs ga pl L Z w) (hp : Pairs pa pl L Z w) (h1 : n0 ≤ gl) (h2 : pl ≤ gl) (h3 : gl ≤ 100000) :
    Calls Ybaf.prog 21 #[.slice ga gl gc, .slice pa pl pc, .int .i64 n0] w fun e w' => e = .returned (.bool true) ∧ ∃ m, w' = w.drewN m := by
  have HG := hide hg
  have HP := hide hp
  clear hg hp
  go_enter Ybaf.func21, Ybaf.ntmps21
  go_wp2_with fail
  go_loopw [7] (fun s wr => ∃ i : Nat, i ≤ pl ∧ s = .int .i64 i ∧ ∃ m, wr = w.drewN m) (fun s _ => pl - (intOf s).toNat)
  case atStart => exact ⟨0, by omega, rfl, 0, rfl⟩
  case round =>
    obtain ⟨i, hi, rfl, m, rfl⟩ := hrel
    by_cases hlt : i < pl
    · obtain ⟨b, o, rfl, c0, c1⟩ := unhide HG i hlt
      obtain ⟨b', o', rfl, d0, d1⟩ := unhide HP i hlt
      have t1 : (i : Int) < (pl : Int) := by omega
      have t2 : (i : Int) < (gl : Int) := by omega
      have t3 : (0 : Int) ≤ (i : Int) := by omega
      go_wp2_with fail
      go_quiet (fail)
      go_wp2_with fail
      go_roundw
      case rel => exact ⟨i + 1, by omega, by simp, _, rfl⟩
      case measure => simp [intOf]; omega
    · have hie : i = pl := by omega
      subst hie
      go_wp2_with fail
      go_ret
      exact ⟨rfl, m, rfl⟩
end Go.Proofs.YbulkcyvkFmt
