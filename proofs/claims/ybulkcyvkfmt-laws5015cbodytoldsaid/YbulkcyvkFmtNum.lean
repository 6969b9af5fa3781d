/-
  encoding/binary's Uint16 and Uint32, both orders.
-/
import Derived.Test.YbulkcyvkFmtFullC
import Derived.Lib.EndianBits
import Derived.Stop.LaidErr
namespace Go.Proofs.YbulkcyvkFmt
open Go.RowKit
set_option maxRecDepth 100000

theorem Grew.refl (X : Nat → Prop) (w : World) : Grew X w w := ⟨rfl, rfl, rfl, Nat.le_refl _, fun _ _ _ => rfl⟩
theorem Grew.drewN {X : Nat → Prop} {x y : World} (h : Grew X x y) (n : Nat) : Grew X x (y.drewN n) := ⟨h.os, h.tape, h.output, h.size, h.block⟩

set_option maxHeartbeats 1000000 in
theorem le16 (g o n c d0 d1 : Nat) (w : World) (hn : 2 ≤ n) (c0 : w.cell? ⟨g, o, none⟩ = some (.int .u8 (d0 : Int))) (c1 : w.cell? ⟨g, o + 1, none⟩ = some (.int .u8 (d1 : Int))) (h0 : d0 < 256) (h1 : d1 < 256) :
    Calls Ybaf.prog 80 #[.agg #[], .slice (some ⟨g, o, none⟩) n c] w fun e w' => e = .returned (.int .u16 ((d0 : Int) + (d1 : Int) * 256)) ∧ Grew (fun _ => False) w w' := by
  have e0 := cell?_alloc_old (.cells #[] 70) c0
  have e1 := cell?_alloc_old (.cells #[] 70) c1
  go_enter Ybaf.func80, Ybaf.ntmps80
  go_wp2_with fail
  go_quiet (fail)
  go_wp2_with fail
  go_ret
  refine ⟨?_, ((Grew.refl _ w).alloc _).drewN _⟩
  simp (disch := omega) only [u16_or8]
  rfl

set_option maxHeartbeats 1000000 in
theorem be16 (g o n c d0 d1 : Nat) (w : World) (hn : 2 ≤ n) (c0 : w.cell? ⟨g, o, none⟩ = some (.int .u8 (d0 : Int))) (c1 : w.cell? ⟨g, o + 1, none⟩ = some (.int .u8 (d1 : Int))) (h0 : d0 < 256) (h1 : d1 < 256) :
    Calls Ybaf.prog 87 #[.agg #[], .slice (some ⟨g, o, none⟩) n c] w fun e w' => e = .returned (.int .u16 ((d1 : Int) + (d0 : Int) * 256)) ∧ Grew (fun _ => False) w w' := by
  have e0 := cell?_alloc_old (.cells #[] 71) c0
  have e1 := cell?_alloc_old (.cells #[] 71) c1
  go_enter Ybaf.func87, Ybaf.ntmps87
  go_wp2_with fail
  go_quiet (fail)
  go_wp2_with fail
  go_ret
  refine ⟨?_, ((Grew.refl _ w).alloc _).drewN _⟩
  simp (disch := omega) only [u16_or8]
  rfl

set_option maxHeartbeats 1000000 in
theorem le32 (g o n c d0 d1 d2 d3 : Nat) (w : World) (hn : 4 ≤ n) (c0 : w.cell? ⟨g, o, none⟩ = some (.int .u8 (d0 : Int))) (c1 : w.cell? ⟨g, o + 1, none⟩ = some (.int .u8 (d1 : Int))) (c2 : w.cell? ⟨g, o + 2, none⟩ = some (.int .u8 (d2 : Int))) (c3 : w.cell? ⟨g, o + 3, none⟩ = some (.int .u8 (d3 : Int))) (h0 : d0 < 256) (h1 : d1 < 256) (h2 : d2 < 256) (h3 : d3 < 256) :
    Calls Ybaf.prog 31 #[.agg #[], .slice (some ⟨g, o, none⟩) n c] w fun e w' => e = .returned (.int .u32 ((d0 : Int) + (d1 : Int) * 256 + (d2 : Int) * 65536 + (d3 : Int) * 16777216)) ∧ Grew (fun _ => False) w w' := by
  have e0 := cell?_alloc_old (.cells #[] 70) c0
  have e1 := cell?_alloc_old (.cells #[] 70) c1
  have e2 := cell?_alloc_old (.cells #[] 70) c2
  have e3 := cell?_alloc_old (.cells #[] 70) c3
  go_enter Ybaf.func31, Ybaf.ntmps31
  go_wp2_with fail
  go_quiet (fail)
  go_wp2_with fail
  go_ret
  refine ⟨?_, ((Grew.refl _ w).alloc _).drewN _⟩
  simp (disch := omega) only [u32_or8, u32_or16, u32_or24]
  rfl

set_option maxHeartbeats 1000000 in
theorem be32 (g o n c d0 d1 d2 d3 : Nat) (w : World) (hn : 4 ≤ n) (c0 : w.cell? ⟨g, o, none⟩ = some (.int .u8 (d0 : Int))) (c1 : w.cell? ⟨g, o + 1, none⟩ = some (.int .u8 (d1 : Int))) (c2 : w.cell? ⟨g, o + 2, none⟩ = some (.int .u8 (d2 : Int))) (c3 : w.cell? ⟨g, o + 3, none⟩ = some (.int .u8 (d3 : Int))) (h0 : d0 < 256) (h1 : d1 < 256) (h2 : d2 < 256) (h3 : d3 < 256) :
    Calls Ybaf.prog 45 #[.agg #[], .slice (some ⟨g, o, none⟩) n c] w fun e w' => e = .returned (.int .u32 ((d3 : Int) + (d2 : Int) * 256 + (d1 : Int) * 65536 + (d0 : Int) * 16777216)) ∧ Grew (fun _ => False) w w' := by
  have e0 := cell?_alloc_old (.cells #[] 71) c0
  have e1 := cell?_alloc_old (.cells #[] 71) c1
  have e2 := cell?_alloc_old (.cells #[] 71) c2
  have e3 := cell?_alloc_old (.cells #[] 71) c3
  go_enter Ybaf.func45, Ybaf.ntmps45
  go_wp2_with fail
  go_quiet (fail)
  go_wp2_with fail
  go_ret
  refine ⟨?_, ((Grew.refl _ w).alloc _).drewN _⟩
  simp (disch := omega) only [u32_or8, u32_or16, u32_or24]
  rfl
end Go.Proofs.YbulkcyvkFmt
