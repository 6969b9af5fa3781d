/-
  interfaceDescription (20) where an interface is appended, little endian.
-/
import Derived.Test.YbulkcyvkFmtApp
import Derived.Deep.RegionLaw
namespace Go.Proofs.YbulkcyvkFmt
open Go.RowKit Go.Extern.Stop Go.Stop Go.Extern
set_option maxRecDepth 100000
section
variable {B Rd R gb S : Nat} {da : Option Addr} {N cap : Nat} {dat : Nat → Nat} {aE aU : Addr} {G : Nat → Value} {w : World}
set_option maxHeartbeats 4000000 in
theorem CReady.desc_le (h : CReady B Rd R gb S da N cap dat aE aU G w) (left : Nat) (total : Int) (ia : Option Addr) (il ic base : Nat) (xs : List Value) (h6 : G 6 = .int .u32 (left : Int)) (h5 : G 5 = .slice ia il ic) (h4 : G 4 = .iface 70 (.agg #[])) (_hil : il ≤ 60000) (hl : 8 ≤ left) (hl2 : left < 4294967296) (hN : 8 ≤ N) (hown : w.ownsRow base 56 2 (.slice ia il ic) il xs) (hbase : base ≤ w.heap.size) (hd : ∀ i, dat i < 256) :
    Calls Ybaf.prog 20 #[.pointer (some ⟨Rd, 0, none⟩), .int .u32 total] w fun e w' => e = .returned .nilIface ∧ Done B Rd R gb S N dat G base (.slice ia il ic) ((dat 0 : Int) + (dat 1 : Int) * 256) ((dat 4 : Int) + (dat 5 : Int) * 256 + (dat 6 : Int) * 65536 + (dat 7 : Int) * 16777216) left il xs w w' := by
  have x6 : w.cell? ⟨Rd, 6, none⟩ = some (.int .u32 (left : Int)) := by rw [h.rd.cell (by omega), h6]
  have x5 : w.cell? ⟨Rd, 5, none⟩ = some (.slice ia il ic) := by rw [h.rd.cell (by omega), h5]
  have HC : Hid (∀ s, Calls Ybaf.prog 39 #[.pointer (some ⟨Rd, 0, none⟩), .slice (some ⟨Rd, 7, none⟩) 8 24, .string s] w fun e w' => e = .returned .nilIface ∧ Gotten B Rd R gb S N dat G base (.slice ia il ic) 70 left il xs w w') :=
    fun s => (h.body_full s left h6 hl hl2 hN).mono fun e w' ⟨h1, h2⟩ => ⟨h1, gotten_of h h5 h4 hown h2⟩
  obtain ⟨i0, hi0, hz0, hz1, hz2⟩ := info_parts info56
  have d0 := hd 0
  have d1 := hd 1
  have d4 := hd 4
  have d5 := hd 5
  have d6 := hd 6
  have d7 := hd 7
  clear h hown hd
  go_enter Ybaf.func20, Ybaf.ntmps20
  go_wp2_with (go_at_call 39; refine (unhide HC _).mono ?_; rintro e w2 ⟨rfl, hg⟩; have y5 := hg.c5; have y4 := hg.c4; have HG := hide hg; clear hg)
  go_region_law (first
    | (have hgd := unhide HG32; clear hgd; refine step_append_own _ rfl (.tmp 44) (.tmp 66) 38 rfl base 56 i0 _ 2 8 Ybaf.underlying38 hi0 hz0 hz1 hz2 rfl (by omega) (.slice ia il ic) il xs rfl (by exact ((unhide HG32).alloc _).own) ⟨_, 0, none⟩ 1 1 [.int .u16 ((dat 0 : Int) + (dat 1 : Int) * 256), .int .u32 ((dat 4 : Int) + (dat 5 : Int) * 256 + (dat 6 : Int) * 65536 + (dat 7 : Int) * 16777216)] rfl rfl (World.news_of_block (cs := #[.int .u16 ((dat 0 : Int) + (dat 1 : Int) * 256), .int .u32 ((dat 4 : Int) + (dat 5 : Int) * 256 + (dat 6 : Int) * 65536 + (dat 7 : Int) * 16777216)]) (heap_alloc_new _ _)) (by intro u hu; simp at hu; rcases hu with rfl | rfl <;> rfl) (by unfold maxLen; omega) (by omega) (by exact ((unhide HG32).alloc _).sized hbase) ?_; intro v5 w5 own5 gr5 nil5
       have hA : Appended B Rd R gb S N dat G base (.slice ia il ic) 70 left il xs w v5 ((dat 0 : Int) + (dat 1 : Int) * 256) ((dat 4 : Int) + (dat 5 : Int) * 256 + (dat 6 : Int) * 65536 + (dat 7 : Int) * 16777216) w5 := (by exact ((unhide HG32).alloc _).appended own5 gr5)
       obtain ⟨va, vm, vc, rfl⟩ := hA.shape
       have hk5 := hA.c5; have hk4 := hA.c4; have hk7 := hA.f5; have HA := hide hA; clear hA own5 gr5 nil5)
    | (go_simp
       first
         | (go_at_call 80; refine (le16 Rd 7 2 24 (dat 0) (dat 1) _ (by omega) (by exact (unhide HG).cell 0 (by omega)) (by exact (unhide HG).cell 1 (by omega)) d0 d1).mono ?_; rintro e w16 ⟨rfl, g16⟩; have HG16 : Hid (Gotten B Rd R gb S N dat G base (.slice ia il ic) 70 left il xs w w16) := (unhide HG).drew.grew g16; have y5a := (unhide HG16).c5; have y4a := (unhide HG16).c4; clear g16 y4 y5)
         | (go_at_call 31; refine (le32 Rd 11 4 20 (dat 4) (dat 5) (dat 6) (dat 7) _ (by omega) (by exact (unhide HG16).cell 4 (by omega)) (by exact (unhide HG16).cell 5 (by omega)) (by exact (unhide HG16).cell 6 (by omega)) (by exact (unhide HG16).cell 7 (by omega)) d4 d5 d6 d7).mono ?_; rintro e w32 ⟨rfl, g32⟩; have HG32 : Hid (Gotten B Rd R gb S N dat G base (.slice ia il ic) 70 left il xs w w32) := (unhide HG16).grew g32; have y5b := (unhide HG32).c5; have y5c : ∀ o, (w32.alloc o).cell? ⟨Rd, 5, none⟩ = some (.slice ia il ic) := (fun o => ((unhide HG32).alloc o).c5); clear g32 y4a y5a)))
  all_goals
    go_wp2_with fail
    go_ret
    exact ⟨rfl, (unhide HA).done⟩

end
end Go.Proofs.YbulkcyvkFmt
