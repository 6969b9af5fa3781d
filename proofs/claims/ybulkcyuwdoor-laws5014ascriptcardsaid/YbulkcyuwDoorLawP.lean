/-
  One step of the plain model: it is defined; what it leaves is as good as what it found. The state's cells.
-/
import Derived.Test.YbulkcyuwDoorLocate
namespace Go.Proofs.YbulkcyuwDoor
open Go.RowKit

def good (s : St) : Prop := s.f0.la ≤ 131071 ∧ s.f0.lo ≤ 131071 ∧ s.f1.la ≤ 131071 ∧ s.f1.lo ≤ 131071 ∧ Bt 13859405640767635456 s.fx.la 4636033603912859648 ∧ Bt 13864612927836782592 s.fx.lo 4672876039536377856
theorem good_zero : good stZ := by
  refine ⟨by decide, by decide, by decide, by decide, ?_, ?_⟩
  · exact (Bt.const (k := 0) (by kernel_rfl)).weak (by kernel_rfl)
  · exact (Bt.const (k := 0) (by kernel_rfl)).weak (by kernel_rfl)

theorem step_plain (odd : Bool) (la lo : Nat) (t c : Int) (s : St) (hs : good s) (hla : la ≤ 131071) (hlo : lo ≤ 131071) :
    ∃ ga go gk s2 a b ok a' b', (if near t c (otherF odd s).t (otherF odd s).c then globalF odd la lo (otherF odd s).o (otherF odd s).la (otherF odd s).lo else some (0, 0, false)) = some (ga, go, gk) ∧
      (if gk then { setF odd s ⟨t, odd, la, lo, c⟩ with fx := ⟨ga, go, t, c⟩ } else setF odd s ⟨t, odd, la, lo, c⟩) = s2 ∧
      (if !gk && near t c s2.fx.t s2.fx.c then localF odd la lo s2.fx.la s2.fx.lo else some (ga, go, gk)) = some (a, b, ok) ∧
      roundF a = some a' ∧ roundF b = some b' ∧ good s2 ∧ (ok = false → a' = 0 ∧ b' = 0) := by
  obtain ⟨q1, q2, q3, q4, q5, q6⟩ := hs
  have hoth : (otherF odd s).la ≤ 131071 ∧ (otherF odd s).lo ≤ 131071 := by cases odd <;> exact ⟨by assumption, by assumption⟩
  have hg : ∃ ga go gk, (if near t c (otherF odd s).t (otherF odd s).c then globalF odd la lo (otherF odd s).o (otherF odd s).la (otherF odd s).lo else some (0, 0, false)) = some (ga, go, gk) ∧ (gk = true → Bt 13859405640767635456 ga 4636033603912859648 ∧ Bt 13864612927836782592 go 4672876039536377856) ∧ (gk = false → ga = 0 ∧ go = 0) := by
    cases near t c (otherF odd s).t (otherF odd s).c
    · exact ⟨0, 0, false, rfl, fun h => (by cases h), fun _ => ⟨rfl, rfl⟩⟩
    · exact globalF_bt odd (otherF odd s).o hla hlo hoth.1 hoth.2
  obtain ⟨ga, go, gk, hg, hgt, hgf⟩ := hg
  have hset : good (setF odd s ⟨t, odd, la, lo, c⟩) := by cases odd <;> exact ⟨by assumption, by assumption, by assumption, by assumption, q5, q6⟩
  obtain ⟨s2, hs2⟩ : ∃ s2, (if gk then { setF odd s ⟨t, odd, la, lo, c⟩ with fx := ⟨ga, go, t, c⟩ } else setF odd s ⟨t, odd, la, lo, c⟩) = s2 := ⟨_, rfl⟩
  have hgood : good s2 := by
    rw [← hs2]
    cases gk with
    | true =>
      obtain ⟨h1, h2, h3, h4, _, _⟩ := hset
      exact ⟨h1, h2, h3, h4, (hgt rfl).1, (hgt rfl).2⟩
    | false => exact hset
  have hr : ∃ a b ok, (if !gk && near t c s2.fx.t s2.fx.c then localF odd la lo s2.fx.la s2.fx.lo else some (ga, go, gk)) = some (a, b, ok) ∧ (ok = true → Bt 13859405640767635456 a 4636033603912859648 ∧ Bt 13935002356576944128 b 4711630319722168320) ∧ (ok = false → a = 0 ∧ b = 0) := by
    cases hb : (!gk && near t c s2.fx.t s2.fx.c)
    · refine ⟨ga, go, gk, rfl, fun h => ⟨(hgt h).1, (hgt h).2.weak (by kernel_rfl)⟩, hgf⟩
    · exact localF_bt odd hla hlo hgood.2.2.2.2.1 hgood.2.2.2.2.2
  obtain ⟨a, b, ok, hr, hrt, hrf⟩ := hr
  have hab : ∃ a' b', roundF a = some a' ∧ roundF b = some b' ∧ (ok = false → a' = 0 ∧ b' = 0) := by
    cases ok with
    | true =>
      obtain ⟨a', ha'⟩ := roundF_some ((hrt rfl).1.weak (by kernel_rfl))
      obtain ⟨b', hb'⟩ := roundF_some (hrt rfl).2
      exact ⟨a', b', ha', hb', fun h => (by cases h)⟩
    | false =>
      obtain ⟨rfl, rfl⟩ := hrf rfl
      exact ⟨0, 0, roundF_zero, roundF_zero, fun _ => ⟨rfl, rfl⟩⟩
  obtain ⟨a', b', ha, hb, hz⟩ := hab
  exact ⟨ga, go, gk, s2, a, b, ok, a', b', hg, hs2, hr, ha, hb, hgood, hz⟩

/-- The cells of one record; of the three. -/
def stc (s : St) : Nat → Value
  | 0 => .int .i64 s.f0.t
  | 1 => .int .i64 s.f1.t
  | 2 => .bool s.f0.o
  | 3 => .int .u32 s.f0.la
  | 4 => .int .u32 s.f0.lo
  | 5 => .bool s.f1.o
  | 6 => .int .u32 s.f1.la
  | 7 => .int .u32 s.f1.lo
  | 8 => .int .u8 s.f0.c
  | 9 => .int .u8 s.f1.c
  | 10 => .float .f64 s.fx.la
  | 11 => .float .f64 s.fx.lo
  | 12 => .int .i64 s.fx.t
  | _ => .int .u8 s.fx.c
def stF (G : Nat → St) : Nat → Value := fun i => stc (G (i / 14)) (i % 14)
theorem stF_at (G : Nat → St) (a j : Nat) (h : j < 14) : stF G (a * 14 + j) = stc (G a) j := by
  unfold stF
  rw [show (a * 14 + j) / 14 = a from by omega, show (a * 14 + j) % 14 = j from by omega]
def keyOf (a : Nat) : Int := (a : Int) * 65793 + 2748
theorem key_inj {a b : Nat} (h : keyOf a = keyOf b) : a = b := by unfold keyOf at h; omega
end Go.Proofs.YbulkcyuwDoor
