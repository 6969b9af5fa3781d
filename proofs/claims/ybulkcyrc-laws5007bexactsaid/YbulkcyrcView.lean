/-
  WHAT LIES THERE BEHIND ConsistencyProof, for the law's own loops.
-/
import Derived.Test.YbulkcyrcSub
import Derived.Test.YbulkcyrcEq
namespace Go.Proofs.Ybulkcyrc
open Go.RowKit

/-- What lies there behind ConsistencyProof. -/
structure View (L : List (Nat × Nat)) (b g cap g2 cap2 : Nat) (w : World) : Prop where
  log : w.cell? ⟨b, 0, none⟩ = some (.slice (some ⟨g2, 0, none⟩) L.length cap2)
  hash : ∀ i (h : i < L.length), w.rangeAt g (i * 32) (encL (L[i]).1 (L[i]).2)
  lo : ∀ i (h : i < L.length), w.cell? ⟨g2, i * 2, none⟩ = some (.int .u64 (L[i]).1)
  hi : ∀ i (h : i < L.length), w.cell? ⟨g2, i * 2 + 1, none⟩ = some (.int .u64 (L[i]).2)
  bb : b < w.heap.size
  bg : g < w.heap.size
  bg2 : g2 < w.heap.size
  cp : L.length ≤ cap
  cp2 : L.length ≤ cap2
  mx : cap ≤ maxLen
  mx2 : cap2 ≤ maxLen

theorem view_of {B b : Nat} {L : List (Nat × Nat)} {r : Value} {w w1 : World} (h : Subbed B b 0 [] L r w w1) (hL : 0 < L.length) :
    ∃ g cap g2 cap2, r = .slice (some ⟨g, 0, none⟩) L.length cap ∧ View L b g cap g2 cap2 w1 := by
  obtain ⟨v', q1, q2⟩ := h.log
  simp only [Nat.zero_add, List.nil_append] at q2
  rcases q2.2 with ⟨_, h0⟩ | ⟨g2, cap2, cur2, rfl, _, hh2, hc2, hm2, _, ht2⟩
  · omega
  rcases h.res.2 with ⟨_, h0⟩ | ⟨g, cap, cur, rfl, _, hh, hc, hm, _, ht⟩
  · omega
  exact ⟨g, cap, g2, cap2, rfl, cell_of_one q1, fun i hi => hash_at hh ht i hi, fun i hi => (range_at hh2 ht2 i hi).1, fun i hi => (range_at hh2 ht2 i hi).2, lt_of_block q1, lt_of_block hh, lt_of_block hh2, hc, hc2, hm, hm2⟩

theorem View.kept {L : List (Nat × Nat)} {b g cap g2 cap2 : Nat} {w w' : World} (h : View L b g cap g2 cap2 w) (hb : Below w.heap.size w w') : View L b g cap g2 cap2 w' :=
  ⟨(hb.cell (p := ⟨b, 0, none⟩) h.bb).trans h.log, fun i hi j v hv => (hb.cell (p := ⟨g, _, none⟩) h.bg).trans (h.hash i hi j v hv), fun i hi => (hb.cell (p := ⟨g2, _, none⟩) h.bg2).trans (h.lo i hi),
    fun i hi => (hb.cell (p := ⟨g2, _, none⟩) h.bg2).trans (h.hi i hi), by have := hb.size; have := h.bb; omega, by have := hb.size; have := h.bg; omega, by have := hb.size; have := h.bg2; omega, h.cp, h.cp2, h.mx, h.mx2⟩

theorem cell_later' {W w3 : World} {x : Addr} {v : Value} (hb : Below W.heap.size W w3) (h : W.cell? x = some v) : w3.cell? x = some v :=
  (hb.cell (World.block_lt_of_cell? W x h)).trans h
theorem range_later {W w3 : World} {g o : Nat} {cs : List Value} (hb : Below W.heap.size W w3) (h : W.rangeAt g o cs) : w3.rangeAt g o cs := fun j v hv => cell_later' hb (h j v hv)

theorem size25' (lo hi : Nat) : (Yba.prog.info? 25).map (·.size) = some (encL lo hi).length := by rw [encL_len]; exact size25

theorem ret_true {b : Bool} (h : b = true) : Ending.returned (.bool b) = .returned (.bool true) := by rw [h]

end Go.Proofs.Ybulkcyrc
