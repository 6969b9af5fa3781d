/-
  THE LAW's WALK (function 3).
-/
import Derived.Test.YbulkcyrqDoorFin
import Derived.Lib.Builder
namespace Go.Proofs.YbulkcyrqDoor
open Go.RowKit
set_option maxHeartbeats 2000000 in
set_option maxRecDepth 100000 in
theorem law_any (st : Bool) (now : Int) (a0 : Option Addr) (n cap0 : Nat) (xv : Nat → Nat) (al pr hdd : Nat) (w : World) (hn : n ≤ 1024) (hx : ∀ i, i < n → xv i ≤ 255) (hal : al ≤ 255) (hpr : pr ≤ 255) (hhd : hdd ≤ 255)
    (hT : TabAt 0 Lib.deBruijn64tab w) (hw0 : 0 < w.heap.size)
    (hc : ∀ i, i < n → ∃ b off, a0 = some ⟨b, off, none⟩ ∧ b < w.heap.size ∧ w.cell? ⟨b, off + i, none⟩ = some (.int .u8 (xv i))) :
    Calls Ybad.prog 3 #[.bool st, .int .i64 now, .slice a0 n cap0, .int .u8 al, .int .u8 pr, .int .u8 hdd] w fun e w' => e = .returned (.bool true) ∧ Below w.heap.size w w' := by
  have hd : decide ((1024 : Int) < (n : Int)) = false := by simp; omega
  obtain ⟨q, hq, hq8⟩ : ∃ q : Nat, (pr : Int) % 8 = q ∧ q < 8 := ⟨pr % 8, by omega, by omega⟩
  have hq' : Int.tmod (pr : Int) 8 = q := by rw [Int.tmod_eq_emod_of_nonneg (by omega)]; exact hq
  have hmk := run_make_row' (P := Ybad.prog) 25 26 (.pointer none) 8 Ybad.underlying25 info26 rfl .i64 .i64 q (by omega) (by omega)
  have HC := hide (ctor_any now st w)
  have HX := hide hx
  have HCC := hide hc
  have HT := hide hT
  clear hx hc hT
  go_enter Ybad.func3, Ybad.ntmps3
  go_wp2_with (first | (go_at_call 4; refine (unhide HC).mono ?_; rintro e w1 ⟨W, A, D, l0, s0, u0, l1, s1, u1, rfl, hb, h1, h2, r0, r1, bel1⟩; have HS := hide (Sta.fresh hb h1 h2 r0 r1); have HB := hide bel1; clear h1 h2 r0 r1 hb bel1))
  go_loopw [52] (fun i wr => ∃ ol : List Nat, ol.length ≤ q ∧ i = .int .i64 ol.length ∧ wr.rowIs w1.heap.size 26 q (rowF ol) ∧ Sta w.heap.size W A D l0 s0 u0 l1 s1 u1 now st (.slice none 0 0) 0 [] [] (fun x => 0) wr ∧ Below w.heap.size w wr) (fun i _ => q - (intOf i).toNat)
  case atStart => exact ⟨[], by simp, rfl, row_made w1 q, (unhide HS).kept ((Keeps.refl _).alloc _), (unhide HB).alloc (unhide HB).size _⟩
  case round =>
    obtain ⟨ol, hol, rfl, hrow, hsta, hbel⟩ := hrel
    by_cases hlt : ol.length < q
    · have v0 := hrow.cell hlt
      generalize rowF ol ol.length = v at v0
      have f0 := hrow.frozen ol.length
      have hob := hrow.lt
      have ha1 : ∀ o, (wr.alloc o).cell? ⟨w1.heap.size, ol.length, none⟩ = some v := fun o => (World.cell?_alloc_past _ _ _ hob).trans v0
      have ha2 : ∀ o, (wr.alloc o).frozen? ⟨w1.heap.size, ol.length, none⟩ = false := fun o => (World.frozen?_alloc_past _ _ _ hob).trans f0
      have hbs := hbel.size
      have hb1 := (unhide HB).size
      have HR := hide hrow
      have HST := hide hsta
      have HBE := hide hbel
      clear hrow hsta hbel v0 f0
      go_wp2_with fail
      go_roundw
      case rel => exact ⟨ol ++ [wr.heap.size], by simp; omega, by simp, (row_snoc (unhide HR)).alloc _, (unhide HST).kept (((Keeps.refl _).set (a := ⟨w1.heap.size, ol.length, none⟩) (unhide HR) _).alloc _), ((unhide HBE).setCell (p := ⟨w1.heap.size, ol.length, none⟩) hb1 _).alloc (by rw [size_set]; exact hbs) _⟩
      case measure => simp [intOf]; omega
    · have hqe : ol.length = q := by omega
      obtain ⟨w2, hw2⟩ : ∃ w2, w2 = wr := ⟨_, rfl⟩
      subst hw2
      have HR := hide hrow
      have HST := hide hsta
      have HBE := hide hbel
      clear hrow hsta hbel hmk
      subst hqe
      obtain ⟨hh, hh1, hh2⟩ : ∃ hh : Nat, (hdd : Int) % ((ol.length : Int) + 1) = hh ∧ hh ≤ 8 := ⟨hdd % (ol.length + 1), by simp, by have := Nat.mod_lt hdd (show 0 < ol.length + 1 by omega); omega⟩
      have hh3 : Int.tmod (hdd : Int) ((ol.length : Int) + 1) = hh := by rw [Int.tmod_eq_emod_of_nonneg (by omega)]; exact hh1
      go_upto_if 62 with fail
      go_cut [17] from 61 to 67 (fun s wx => ∃ h0 : Nat, s = .int .i64 h0 ∧ w2 = wx)
      case first =>
        go_wp2_with fail
        · go_meet
          case rel => exact ⟨hh, rfl, rfl⟩
        · go_meet
          case rel => exact ⟨0, rfl, rfl⟩
      case rest =>
        obtain ⟨h0, rfl, rfl⟩ := hcut
        clear hh1 hh2 hh3
        go_upto_region 14 with fail
        obtain ⟨i0, hi0, hz0, hz1, hz2⟩ := info_parts info26
        have hce := (unhide HST).cells
        have x20 := hce.1
        have x7 := hce.2.1
        have g7 := hce.2.2.2.1
        clear hce
        go_cut [] from 68 to 76 (fun wx => ∃ qv, Sta w.heap.size W A D l0 s0 u0 l1 s1 u1 now st qv 0 [] [] (fun x => 0) wx ∧ wx.ownsRow w2.heap.size 26 1 qv ol.length (ol.map ptr) ∧ wx.rowIs w1.heap.size 26 ol.length (rowF ol) ∧ Below w.heap.size w wx ∧ w2.heap.size ≤ wx.heap.size)
        case first =>
          go_region_law (refine step_append_own _ rfl (.const (.slice none 0 0)) (.tmp 72) 25 rfl w2.heap.size 26 i0 _ 1 8 Ybad.underlying25 hi0 hz0 hz1 hz2 rfl (by omega) (.slice none 0 0) 0 [] rfl (World.ownsRow_nil _ _ _ _) ⟨w1.heap.size, 0, none⟩ ol.length ol.length (ol.map ptr) rfl (by simp) (by exact row_news (unhide HR) rfl) (ptr_one ol) (by unfold maxLen; omega) (by omega) (by exact Nat.le_refl _) ?_; intro v3 w3 hown3 hg3 hnil3; obtain ⟨va, vm, vc, rfl⟩ := own_shape hown3; have HO3 := hide hown3; have HG3 := hide hg3; have HST3 := hide ((unhide HST).kept ((Keeps.refl _).drew.grown hg3)); clear hnil3 hown3 hg3; have x20' := (unhide HST3).cells.1; have x7' := (unhide HST3).cells.2.1; have g7' := (unhide HST3).cells.2.2.2.1)
          all_goals
            go_wp2_with fail
            go_meet
            case rel =>
              have hbe := (unhide HBE).size
              have hr3 := (unhide HR).drew.of_block ((unhide HG3).block w1.heap.size (by exact (unhide HR).lt) (fun e => by cases e))
              obtain ⟨G, gD⟩ := (unhide HST3).cells.2.2.2.2.2.2
              have hB3 : Below w.heap.size w w3 := ((unhide HBE).drew.grown (unhide HG3) hbe (fun k e => by cases e))
              refine ⟨_, (unhide HST3).setQ _, ?_, hr3.setOther (a := ⟨D, 7, none⟩) (row_ne hr3 gD (by decide)) _, hB3.setCell (p := ⟨D, 7, none⟩) (unhide HST3).blk.old.2.2.1 _, ?_⟩
              · have h3 := ownsRow_setCell_other (unhide HO3) (a := ⟨D, 7, none⟩) (owns_ne (unhide HO3) gD (by decide)) (.slice va vm vc)
                simpa using h3
              · rw [size_set]; exact (unhide HG3).size
        case rest =>
          obtain ⟨qv, hS3, hO3, hR3, hB3, hsz3⟩ := hcut
          obtain ⟨w3, hw3⟩ : ∃ w3, w3 = wc := ⟨_, rfl⟩
          subst hw3
          have hce := hS3.cells
          have y20 := hce.1
          have y8 := hce.2.2.1
          have g8 := hce.2.2.2.2.1
          obtain ⟨GD, gD⟩ := hce.2.2.2.2.2.2
          have HS4 := hide (hS3.setH h0)
          have HO4 := hide (ownsRow_setCell_other hO3 (a := ⟨D, 8, none⟩) (owns_ne hO3 gD (by decide)) (.int .i64 (h0 : Int)))
          have HR4 := hide (hR3.setOther (a := ⟨D, 8, none⟩) (row_ne hR3 gD (by decide)) (.int .i64 (h0 : Int)))
          have HB4 := hide (hB3.setCell (p := ⟨D, 8, none⟩) hS3.blk.old.2.2.1 (.int .i64 (h0 : Int)))
          obtain ⟨kq, hkq, hkq8⟩ : ∃ q : Nat, (al : Int) % 8 = q ∧ q < 8 := ⟨al % 8, by omega, by omega⟩
          have hkq' : Int.tmod (al : Int) 8 = kq := by rw [Int.tmod_eq_emod_of_nonneg (by omega)]; exact hkq
          have H12 := hide (unhide HR).lt
          have HB2 := hide (unhide HBE).size
          clear hce hS3 hO3 hR3 hB3 gD x20 x7 g7 HR HST HBE
          go_upto_if 89 with fail
          go_cut [18] from 77 to 89 (fun s wx => ∃ kk : Nat, kk < 4 ∧ s = .int .i64 kk ∧ w3.setCell ⟨D, 8, none⟩ (.int .i64 h0) = wx)
          case first =>
            go_wp2_with fail
            · go_meet
              case rel => exact ⟨0, by omega, rfl, rfl⟩
            · go_meet
              case rel => exact ⟨kq, by omega, rfl, rfl⟩
          case rest =>
            obtain ⟨kk, hk4, rfl, hw4⟩ := hcut
            obtain ⟨w4, hw4'⟩ : ∃ w4, w4 = wc := ⟨_, rfl⟩
            subst hw4'
            have hsz4 : w2.heap.size ≤ w4.heap.size := by rw [← hw4, size_set]; exact hsz3
            rw [hw4] at HS4 HO4 HR4 HB4
            clear hw4 y20 y8 g8 hkq hkq' hsz3
            have hmk := run_make_row' (P := Ybad.prog) 25 26 (.pointer none) 8 Ybad.underlying25 info26 rfl .i64 .i64 kk (by omega) (by omega)
            go_wp2_with fail
            go_loopw [94] (fun i wr => ∃ (ls : List Nat) (Du : Nat → Int), ls.length ≤ kk ∧ i = .int .i64 ls.length ∧ wr.rowIs w4.heap.size 26 kk (rowF ls) ∧ Sta w.heap.size W A D l0 s0 u0 l1 s1 u1 now st qv h0 ls [] Du wr ∧ wr.ownsRow w2.heap.size 26 1 qv ol.length (ol.map ptr) ∧ wr.rowIs w1.heap.size 26 ol.length (rowF ol) ∧ Below w.heap.size w wr) (fun i _ => kk - (intOf i).toNat)
            case atStart => exact ⟨[], _, by simp, rfl, row_made w4 kk, (unhide HS4).kept ((Keeps.refl _).alloc _), (unhide HO4).alloc _, (unhide HR4).alloc _, (unhide HB4).alloc (unhide HB4).size _⟩
            case round =>
              obtain ⟨ls, Du, hls, rfl, hrow, hsta, hown, hold, hbel⟩ := hrel
              by_cases hlt : ls.length < kk
              · have v0 := hrow.cell hlt
                generalize rowF ls ls.length = v at v0
                have f0 := hrow.frozen ls.length
                have hbs := hbel.size
                have hb4 := (unhide HB4).size
                have hlb := hrow.lt
                have hne1 : (w1.heap.size : Nat) ≠ w4.heap.size := by have := (unhide HR4).lt; omega
                have hqb : ∀ g, qv.ownBlock = some g → g ≠ w4.heap.size := fun g e => by have := ((unhide HO4).lt g e).2; omega
                have k1 : Keeps wr ((wr.setCell ⟨w4.heap.size, ls.length, none⟩ (ptr wr.heap.size)).alloc (.cells #[.pointer none, .nilFunc, .pointer none, .int .i64 now, .pointer none, .pointer none, .pointer none, .int .u32 0, .int .u32 0] 31)) := ((Keeps.refl _).set (a := ⟨w4.heap.size, ls.length, none⟩) hrow _).alloc _
                have HS5 := hide (hsta.kept k1)
                have HT5 : Hid (Tim wr.heap.size now none 0 ((wr.setCell ⟨w4.heap.size, ls.length, none⟩ (ptr wr.heap.size)).alloc (.cells #[.pointer none, .nilFunc, .pointer none, .int .i64 now, .pointer none, .pointer none, .pointer none, .int .u32 0, .int .u32 0] 31))) := by
                  have := fresh_timer (wr.setCell ⟨w4.heap.size, ls.length, none⟩ (ptr wr.heap.size)) #[.pointer none, .nilFunc, .pointer none, .int .i64 now, .pointer none, .pointer none, .pointer none, .int .u32 0, .int .u32 0] rfl now rfl rfl rfl
                  rw [size_set] at this
                  exact this
                have HR5 := hide ((row_snoc (t := wr.heap.size) hrow).alloc (.cells #[.pointer none, .nilFunc, .pointer none, .int .i64 now, .pointer none, .pointer none, .pointer none, .int .u32 0, .int .u32 0] 31))
                have HQ5 := hide ((ownsRow_setCell_other hown (a := ⟨w4.heap.size, ls.length, none⟩) (fun e => hqb _ e rfl) (ptr wr.heap.size)).alloc (.cells #[.pointer none, .nilFunc, .pointer none, .int .i64 now, .pointer none, .pointer none, .pointer none, .int .u32 0, .int .u32 0] 31))
                have HP5 := hide ((hold.setOther (a := ⟨w4.heap.size, ls.length, none⟩) hne1 (ptr wr.heap.size)).alloc (.cells #[.pointer none, .nilFunc, .pointer none, .int .i64 now, .pointer none, .pointer none, .pointer none, .int .u32 0, .int .u32 0] 31))
                have HB5 := hide ((hbel.setCell (p := ⟨w4.heap.size, ls.length, none⟩) hb4 (ptr wr.heap.size)).alloc (by rw [size_set]; exact hbs) (.cells #[.pointer none, .nilFunc, .pointer none, .int .i64 now, .pointer none, .pointer none, .pointer none, .int .u32 0, .int .u32 0] 31))
                have hnew : wr.heap.size ∉ ls ++ [] := fun e => by have := hsta.lt _ e; omega
                have HLS := hide hsta.tim_of
                clear hrow hsta hown hold hbel k1 hmk
                go_wp2_with (first | (go_at_call 5; refine ((unhide HS5).due_push wr.heap.size (unhide HT5) hnew (by omega) (by omega)).mono ?_; rintro e w6 ⟨rfl, hs6, o6⟩))
                go_roundw
                case rel =>
                  have k6 := keep26 o6 (fun k e => by
                    rcases e with e | e | e
                    · obtain ⟨⟨F, f1, _⟩, _⟩ := (unhide HS5).whe
                      exact ⟨_, _, _, e ▸ f1, by decide⟩
                    · obtain ⟨T, t1, _⟩ := unhide HT5
                      exact ⟨31, 9, T, by rw [e]; exact t1, by decide⟩
                    · obtain ⟨nx, f, r, _⟩ := (unhide HS5).tim_of k (by simp [e])
                      exact ⟨_, _, _, r, by decide⟩)
                  refine ⟨ls ++ [wr.heap.size], _, by simp; omega, by simp, k6.1 _ _ _ (unhide HR5), hs6, k6.2 _ _ _ _ (unhide HQ5), k6.1 _ _ _ (unhide HP5), ?_⟩
                  refine (unhide HB5).trans (o6.below fun k e => ?_)
                  rcases e with e | e | e
                  · rw [e]; exact (unhide HS5).blk.old.1
                  · omega
                  · exact (unhide HS5).old k (by simp [e])
                case measure => simp [intOf]; omega
              · have hkke : ls.length = kk := by omega
                subst hkke
                obtain ⟨w5, hw5⟩ : ∃ w5, w5 = wr := ⟨_, rfl⟩
                subst hw5
                have HR5 := hide hrow
                have HS5 := hide hsta
                have HQ5 := hide hown
                have HP5 := hide hold
                have HB5 := hide hbel
                have h45 := hrow.lt
                have HQB : Hid (∀ g, qv.ownBlock = some g → g < w4.heap.size) := fun g e => ((unhide HO4).lt g e).2
                clear hrow hsta hown hold hbel hmk HS4 HO4 HR4 HB4
                have hmk := run_make_row' (P := Ybad.prog) 25 26 (.pointer none) 8 Ybad.underlying25 info26 rfl .i64 .i64 n (by omega) (by omega)
                go_wp2_with fail
                go_loopw [23, 115] (fun md i wr => ∃ (pl : List Nat) (Du : Nat → Int) (m : Int), pl.length ≤ n ∧ i = .int .i64 pl.length ∧ md = .int .i64 m ∧ ((pl = [] ∧ m = 4611686018427387904) ∨ ∃ M : Nat, m = M ∧ Least pl Du M) ∧ wr.rowIs w5.heap.size 26 n (rowF pl) ∧ Sta w.heap.size W A D l0 s0 u0 l1 s1 u1 now st qv h0 ls pl Du wr ∧ wr.ownsRow w2.heap.size 26 1 qv ol.length (ol.map ptr) ∧ wr.rowIs w1.heap.size 26 ol.length (rowF ol) ∧ wr.rowIs w4.heap.size 26 ls.length (rowF ls) ∧ Below w.heap.size w wr) (fun _ i _ => n - (intOf i).toNat)
                case atStart => exact ⟨[], _, _, by simp, rfl, rfl, .inl ⟨rfl, rfl⟩, row_made w5 n, (unhide HS5).kept ((Keeps.refl _).alloc _), (unhide HQ5).alloc _, (unhide HP5).alloc _, (unhide HR5).alloc _, (unhide HB5).alloc (unhide HB5).size _⟩
                case round =>
                  obtain ⟨pl, Du', m, hpl, rfl, rfl, hmin, hrow, hsta, hown, hold, hlst, hbel⟩ := hrel
                  by_cases hlt : pl.length < n
                  · have v0 := hrow.cell hlt
                    generalize rowF pl pl.length = v at v0
                    have f0 := hrow.frozen pl.length
                    have hlb5 := hrow.lt
                    have hbs := hbel.size
                    have hb5 := (unhide HB5).size
                    have hxk := unhide HX pl.length hlt
                    obtain ⟨b, off, hao, hb, hck⟩ := unhide HCC pl.length hlt
                    have c0 := (hbel.cell (p := ⟨b, off + pl.length, none⟩) hb).trans hck
                    clear hck
                    generalize xv pl.length = x at *
                    subst hao
                    obtain ⟨r, hm1, hr127⟩ : ∃ r : Nat, (x : Int) % 127 = r ∧ r < 127 := ⟨x % 127, by omega, Nat.mod_lt _ (by omega)⟩
                    have hm2 : Int.tmod (x : Int) 127 = r := by rw [Int.tmod_eq_emod_of_nonneg (by omega)]; exact hm1
                    have HM3 : Hid (((r + 1 : Nat) : Int) = (r : Int) + 1) := by show ((r + 1 : Nat) : Int) = (r : Int) + 1; omega
                    have hne1 : (w1.heap.size : Nat) ≠ w5.heap.size := by have := (unhide HP5).lt; omega
                    have hne4 : (w4.heap.size : Nat) ≠ w5.heap.size := by omega
                    have hqb : ∀ g, qv.ownBlock = some g → g ≠ w5.heap.size := fun g e => by have := ((unhide HQ5).lt g e).2; omega
                    have k1 : Keeps wr ((wr.setCell ⟨w5.heap.size, pl.length, none⟩ (ptr wr.heap.size)).alloc (.cells #[.pointer none, .nilFunc, .pointer none, .int .i64 ((r : Int) + 1), .pointer none, .pointer none, .pointer none, .int .u32 0, .int .u32 0] 31)) := ((Keeps.refl _).set (a := ⟨w5.heap.size, pl.length, none⟩) hrow _).alloc _
                    have HS6 := hide (hsta.kept k1)
                    have HT6 : Hid (Tim wr.heap.size ((r : Int) + 1) none 0 ((wr.setCell ⟨w5.heap.size, pl.length, none⟩ (ptr wr.heap.size)).alloc (.cells #[.pointer none, .nilFunc, .pointer none, .int .i64 ((r : Int) + 1), .pointer none, .pointer none, .pointer none, .int .u32 0, .int .u32 0] 31))) := by
                      have := fresh_timer (wr.setCell ⟨w5.heap.size, pl.length, none⟩ (ptr wr.heap.size)) #[.pointer none, .nilFunc, .pointer none, .int .i64 ((r : Int) + 1), .pointer none, .pointer none, .pointer none, .int .u32 0, .int .u32 0] rfl ((r : Int) + 1) rfl rfl rfl
                      rw [size_set] at this
                      exact this
                    have HR6 := hide ((row_snoc (t := wr.heap.size) hrow).alloc (.cells #[.pointer none, .nilFunc, .pointer none, .int .i64 ((r : Int) + 1), .pointer none, .pointer none, .pointer none, .int .u32 0, .int .u32 0] 31))
                    have HQ6 := hide ((ownsRow_setCell_other hown (a := ⟨w5.heap.size, pl.length, none⟩) (fun e => hqb _ e rfl) (ptr wr.heap.size)).alloc (.cells #[.pointer none, .nilFunc, .pointer none, .int .i64 ((r : Int) + 1), .pointer none, .pointer none, .pointer none, .int .u32 0, .int .u32 0] 31))
                    have HP6 := hide ((hold.setOther (a := ⟨w5.heap.size, pl.length, none⟩) hne1 (ptr wr.heap.size)).alloc (.cells #[.pointer none, .nilFunc, .pointer none, .int .i64 ((r : Int) + 1), .pointer none, .pointer none, .pointer none, .int .u32 0, .int .u32 0] 31))
                    have HL6 := hide ((hlst.setOther (a := ⟨w5.heap.size, pl.length, none⟩) hne4 (ptr wr.heap.size)).alloc (.cells #[.pointer none, .nilFunc, .pointer none, .int .i64 ((r : Int) + 1), .pointer none, .pointer none, .pointer none, .int .u32 0, .int .u32 0] 31))
                    have HB6 := hide ((hbel.setCell (p := ⟨w5.heap.size, pl.length, none⟩) hb5 (ptr wr.heap.size)).alloc (by rw [size_set]; exact hbs) (.cells #[.pointer none, .nilFunc, .pointer none, .int .i64 ((r : Int) + 1), .pointer none, .pointer none, .pointer none, .int .u32 0, .int .u32 0] 31))
                    have hnew : wr.heap.size ∉ ls ++ pl := fun e => by have := hsta.lt _ e; omega
                    have hnpl : wr.heap.size ∉ pl := fun e => hnew (by simp [e])
                    have HMIN := hide hmin
                    clear hrow hsta hown hold hlst hbel k1 hmk hmin
                    go_wp2_with (first | (go_at_call 6; refine ((unhide HS6).place wr.heap.size (r + 1) (by omega) (by omega) (by rw [unhide HM3]; exact unhide HT6) hnew (by omega) (by omega)).mono ?_; rintro e w6 ⟨rfl, hs6, o6⟩; have HS7 := hide hs6; have HO6 := hide o6; have c3 : w6.cell? ⟨wr.heap.size, 3, none⟩ = some (.int .i64 ((r : Int) + 1)) := (by obtain ⟨nx, f, r1, r2, _⟩ := hs6.tim_of wr.heap.size (by simp); rw [r1.cell (by omega), r2, setDu_same, unhide HM3]); clear hs6 o6))
                    all_goals
                      have k6 := keep26 (unhide HO6) (fun k e => by
                        obtain ⟨⟨c0, a0, _⟩, ⟨m0, b0, _⟩, e0⟩ := (unhide HS6).r0
                        obtain ⟨⟨c1, a1, _⟩, ⟨m1, b1, _⟩, e1⟩ := (unhide HS6).r1
                        rcases e with e | e | e | e | e | e | e | e
                        · obtain ⟨T, t1, _⟩ := unhide HT6
                          exact ⟨31, 9, T, by rw [e]; exact t1, by decide⟩
                        · obtain ⟨nx, f, r, _⟩ := (unhide HS6).tim_of k (by simp [e])
                          exact ⟨_, _, _, r, by decide⟩
                        · exact ⟨_, _, _, by rw [e]; exact a0, by decide⟩
                        · exact ⟨_, _, _, by rw [e]; exact e0, by decide⟩
                        · exact ⟨_, _, _, by rw [e]; exact b0, by decide⟩
                        · exact ⟨_, _, _, by rw [e]; exact a1, by decide⟩
                        · exact ⟨_, _, _, by rw [e]; exact e1, by decide⟩
                        · exact ⟨_, _, _, by rw [e]; exact b1, by decide⟩)
                      have hB7 := (unhide HB6).trans ((unhide HO6).below (B := w.heap.size) fun k e => by
                        have hold := (unhide HS6).blk.old
                        rcases e with e | e | e | e | e | e | e | e
                        · omega
                        · exact (unhide HS6).old k (by simp [e])
                        all_goals omega)
                      have hlst := least_snoc (d := r + 1) hnpl (by omega) (by omega) (unhide HMIN)
                      go_roundw
                    case rel =>
                      exact ⟨pl ++ [wr.heap.size], _, _, by simp; omega, by simp, rfl, .inr ⟨r + 1, (unhide HM3).symm, hlst.1 (by rw [unhide HM3]; omega)⟩, k6.1 _ _ _ (unhide HR6), unhide HS7, k6.2 _ _ _ _ (unhide HQ6), k6.1 _ _ _ (unhide HP6), k6.1 _ _ _ (unhide HL6), hB7⟩
                    case measure => simp [intOf]; omega
                    case rel =>
                      exact ⟨pl ++ [wr.heap.size], _, _, by simp; omega, by simp, rfl, .inr (hlst.2 (by rw [unhide HM3]; omega)), k6.1 _ _ _ (unhide HR6), unhide HS7, k6.2 _ _ _ _ (unhide HQ6), k6.1 _ _ _ (unhide HP6), k6.1 _ _ _ (unhide HL6), hB7⟩
                    case measure => simp [intOf]; omega
                  · have hple : pl.length = n := by omega
                    subst hple
                    obtain ⟨w6, hw6⟩ : ∃ w6, w6 = wr := ⟨_, rfl⟩
                    subst hw6
                    obtain ⟨M, hML, hMv⟩ : ∃ M : Nat, (pl ≠ [] → Least pl Du' M) ∧ (pl ≠ [] → m = M) := by
                      rcases hmin with ⟨e, _⟩ | ⟨M, e, h⟩
                      · exact ⟨0, fun h => absurd e h, fun h => absurd e h⟩
                      · exact ⟨M, fun _ => h, fun _ => e⟩
                    have HR6 := hide hrow
                    have HS6 := hide hsta
                    have HQ6 := hide hown
                    have HP6 := hide hold
                    have HL6 := hide hlst
                    have HB6 := hide hbel
                    clear hrow hsta hown hold hlst hbel hmk hmin HS5 HQ5 HP5 HB5 HR5
                    go_upto_if 145 with fail
                    go_cut [27] from 144 to 191 (fun s wx => wx.ownsRow w6.heap.size 26 1 s (wantL st now ls pl Du' M).length ((wantL st now ls pl Du' M).map ptr) ∧ Below w6.heap.size w6 wx)
                    case first =>
                      cases st with
                      | true =>
                        go_wp2_with fail
                        go_meet
                        case rel => exact ⟨World.ownsRow_nil _ _ _ _, Below.refl _ _⟩
                      | false =>
                        by_cases hk0 : 0 < ls.length
                        · have hwl : wantL false now ls pl Du' M = ls.reverse := by
                            unfold wantL
                            rw [if_neg (by decide), if_pos (by intro e; rw [e] at hk0; simp at hk0)]
                          have HWL := hide hwl
                          clear hwl
                          go_wp2_with fail
                          clear hk0
                          try simp only [Bool.not_false]
                          go_loopw [27, 28] (fun wv i wr => ∃ j : Nat, j ≤ ls.length ∧ i = .int .i64 ((j : Int) - 1) ∧ wr.ownsRow w6.heap.size 26 1 wv (ls.length - j) ((ls.drop j).reverse.map ptr) ∧ Below w6.heap.size w6 wr) (fun _ i _ => ((intOf i) + 1).toNat)
                          case atStart => exact ⟨ls.length, by omega, rfl, by simpa using World.ownsRow_nil _ _ _ _, Below.refl _ _⟩
                          case round =>
                            obtain ⟨j, hj, rfl, hown, hbel⟩ := hrel
                            cases j with
                            | zero =>
                              have HO7 := hide hown
                              clear hown
                              simp only [show ((0 : Nat) : Int) - 1 = -1 from rfl]
                              go_wp2_with fail
                              go_meet
                              case rel =>
                                rw [unhide HWL, List.length_reverse]
                                exact ⟨by simpa using unhide HO7, hbel⟩
                            | succ i =>
                              have ei : ((i + 1 : Nat) : Int) - 1 = (i : Int) := by omega
                              rw [ei]
                              clear ei
                              obtain ⟨t, ht⟩ : ∃ t, ls[i]? = some t := ⟨ls[i]'(by omega), List.getElem?_eq_getElem (by omega)⟩
                              have hlb := (unhide HL6).lt
                              have ct : wr.cell? ⟨w4.heap.size, i, none⟩ = some (.pointer (some ⟨t, 0, none⟩)) := by
                                rw [hbel.cell (p := ⟨w4.heap.size, i, none⟩) hlb, (unhide HL6).cell (by omega)]
                                simp [rowF, ht, tp]
                              have hwb := hbel.size
                              have hdrop : ls.drop i = t :: ls.drop (i + 1) := by
                                have hi : i < ls.length := by omega
                                rw [List.drop_eq_getElem_cons hi]
                                rw [List.getElem?_eq_getElem hi] at ht
                                simp at ht
                                rw [ht]
                              have HDR := hide hdrop
                              clear hdrop ht
                              go_wp2_with (at_builtin; refine wpList_append_lies _ rfl (.tmp 154) (.tmp 159) 25 rfl w6.heap.size 26 i0 _ 1 8 Ybad.underlying25 hi0 hz0 hz1 hz2 rfl (by omega) u27 (ls.length - (i + 1)) ((ls.drop (i + 1)).reverse.map ptr) rfl (hown.alloc _) ⟨wr.heap.size, 0, none⟩ 1 1 [ptr t] rfl rfl (World.news_of_block (cs := #[ptr t]) (heap_alloc_new wr _)) (by intro u hu; simp at hu; subst hu; rfl) (by omega) (by unfold maxLen; omega) (by omega) (by simp; omega) (wr.heap.size + 1) (by simp) ?_; intro g cap w7 hown1 hgrow hat hlt1)
                              go_roundw
                              case measure => simp [intOf]
                              case rel =>
                                refine ⟨i, by omega, rfl, ?_, (hbel.alloc hwb _).grown hgrow (by simp; omega) (fun k e => (hown.lt k e).1)⟩
                                rw [unhide HDR, List.reverse_cons, List.map_append, show ls.length - i = ls.length - (i + 1) + 1 from by omega]
                                exact hown1
                        · have hls0 : ls = [] := by
                            cases ls with
                            | nil => rfl
                            | cons a b => simp at hk0
                          have hnl : ¬ (ls ≠ []) := by simpa using hls0
                          clear hls0
                          by_cases hpl0 : 0 < pl.length
                          · have hplne : pl ≠ [] := by intro e; rw [e] at hpl0; simp at hpl0
                            obtain rfl := hMv hplne
                            by_cases hmn : (M : Int) ≤ now
                            · have HWL : Hid (wantL false now ls pl Du' M = lis pl Du' M) := by
                                show wantL false now ls pl Du' M = lis pl Du' M
                                unfold wantL
                                rw [if_neg (by decide), if_neg hnl, if_pos ⟨hplne, hmn⟩]
                              clear hplne hnl
                              go_wp2_with fail
                              clear hk0 hpl0 hmn
                              try simp only [Bool.not_false]
                              go_loopw [27, 29] (fun wv i wr => ∃ j : Nat, j ≤ pl.length ∧ i = .int .i64 ((j : Int) - 1) ∧ wr.ownsRow w6.heap.size 26 1 wv (lis (pl.drop j) Du' M).length ((lis (pl.drop j) Du' M).map ptr) ∧ Below w6.heap.size w6 wr) (fun _ i _ => ((intOf i) + 1).toNat)
                              case atStart => exact ⟨pl.length, by omega, rfl, by simpa [lis] using World.ownsRow_nil _ _ _ _, Below.refl _ _⟩
                              case round =>
                                obtain ⟨j, hj, rfl, hown, hbel⟩ := hrel
                                cases j with
                                | zero =>
                                  have HO7 := hide hown
                                  clear hown
                                  simp only [show ((0 : Nat) : Int) - 1 = -1 from rfl]
                                  go_wp2_with fail
                                  go_meet
                                  case rel =>
                                    rw [unhide HWL]
                                    exact ⟨by simpa using unhide HO7, hbel⟩
                                | succ i =>
                                  have ei : ((i + 1 : Nat) : Int) - 1 = (i : Int) := by omega
                                  rw [ei]
                                  clear ei
                                  obtain ⟨t, ht⟩ : ∃ t, pl[i]? = some t := ⟨pl[i]'(by omega), List.getElem?_eq_getElem (by omega)⟩
                                  have hlb := (unhide HR6).lt
                                  have ct : wr.cell? ⟨w5.heap.size, i, none⟩ = some (.pointer (some ⟨t, 0, none⟩)) := by
                                    rw [hbel.cell (p := ⟨w5.heap.size, i, none⟩) hlb, (unhide HR6).cell (by omega)]
                                    simp [rowF, ht, tp]
                                  have cd : wr.cell? ⟨t, 3, none⟩ = some (.int .i64 (Du' t)) := by
                                    obtain ⟨nx, f, r1, r2, _⟩ := (unhide HS6).tim_of t (by simp [List.mem_of_getElem? ht])
                                    rw [hbel.cell (p := ⟨t, 3, none⟩) r1.lt, r1.cell (by omega), r2]
                                  have hwb := hbel.size
                                  have hdrop : lis (pl.drop i) Du' M = if Du' t = (M : Int) then lis (pl.drop (i + 1)) Du' M ++ [t] else lis (pl.drop (i + 1)) Du' M := by
                                    have hi : i < pl.length := by omega
                                    rw [List.drop_eq_getElem_cons hi]
                                    rw [List.getElem?_eq_getElem hi] at ht
                                    simp at ht
                                    rw [ht]
                                    unfold lis
                                    by_cases e : Du' t = (M : Int)
                                    · simp [e]
                                    · simp [e]
                                  have hll : (lis (pl.drop (i + 1)) Du' M).length ≤ 1024 := Nat.le_trans (lis_len _ _ _) (by rw [List.length_drop]; omega)
                                  have HDR := hide hdrop
                                  clear hdrop ht
                                  generalize lis (pl.drop (i + 1)) Du' M = LL at *
                                  generalize Du' t = dd at *
                                  by_cases hdu : dd = (M : Int)
                                  · subst hdu
                                    go_wp2_with (at_builtin; refine wpList_append_lies _ rfl (.tmp 185) (.tmp 190) 25 rfl w6.heap.size 26 i0 _ 1 8 Ybad.underlying25 hi0 hz0 hz1 hz2 rfl (by omega) u27 LL.length (LL.map ptr) rfl (hown.alloc _) ⟨wr.heap.size, 0, none⟩ 1 1 [ptr t] rfl rfl (World.news_of_block (cs := #[ptr t]) (heap_alloc_new wr _)) (by intro u hu; simp at hu; subst hu; rfl) (by omega) (by unfold maxLen; omega) (by omega) (by simp; omega) (wr.heap.size + 1) (by simp) ?_; intro g cap w7 hown1 hgrow hat hlt1)
                                    go_roundw
                                    case measure => simp [intOf]
                                    case rel =>
                                      refine ⟨i, by omega, rfl, ?_, (hbel.alloc hwb _).grown hgrow (by simp; omega) (fun k e => (hown.lt k e).1)⟩
                                      rw [unhide HDR, if_pos rfl, List.map_append, List.length_append]
                                      exact hown1
                                  · go_wp2_with fail
                                    go_roundw
                                    case measure => simp [intOf]
                                    case rel =>
                                      refine ⟨i, by omega, rfl, ?_, hbel⟩
                                      rw [unhide HDR, if_neg hdu]
                                      exact hown
                            · have HWL : Hid (wantL false now ls pl Du' M = []) := by
                                show wantL false now ls pl Du' M = []
                                unfold wantL
                                rw [if_neg (by decide), if_neg hnl, if_neg (fun e => hmn e.2)]
                              go_wp2_with fail
                              go_meet
                              case rel => rw [unhide HWL]; exact ⟨World.ownsRow_nil _ _ _ _, Below.refl _ _⟩
                          · have HWL : Hid (wantL false now ls pl Du' M = []) := by
                              show wantL false now ls pl Du' M = []
                              unfold wantL
                              rw [if_neg (by decide), if_neg hnl, if_neg (fun e => e.1 (List.length_eq_zero_iff.1 (by omega)))]
                            go_wp2_with fail
                            go_meet
                            case rel => rw [unhide HWL]; exact ⟨World.ownsRow_nil _ _ _ _, Below.refl _ _⟩
                    case rest =>
                      obtain ⟨hWant, hBel⟩ := hcut
                      obtain ⟨w7, hw7⟩ : ∃ w7, w7 = wc := ⟨_, rfl⟩
                      subst hw7
                      obtain ⟨wa, wm, wcp, rfl⟩ := own_shape hWant
                      have hlt6 := (unhide HR6).lt
                      have hbs7 := hBel.size
                      have h12 := unhide H12
                      have hB2 := unhide HB2
                      have hS7 := (unhide HS6).kept (fun k t n f r _ => hBel.block k r.lt)
                      have hQ7 := owns_of_block (unhide HQ6) (fun g e => hBel.block g ((unhide HQ6).lt g e).2)
                      have hP7 := (unhide HP6).of_block (hBel.block _ (unhide HP6).lt)
                      have hL7 := (unhide HL6).of_block (hBel.block _ (unhide HL6).lt)
                      have hR7 := (unhide HR6).of_block (hBel.block _ (unhide HR6).lt)
                      have hB7 := (unhide HB6).trans (hBel.mono (unhide HB6).size)
                      have hT7 : TabAt 0 Lib.deBruijn64tab w7 := fun j hj => (hB7.cell (p := ⟨0, j, none⟩) hw0).trans (unhide HT j hj)
                      have hW0 : W ≠ 0 := by have := hS7.blk.old.1; omega
                      have hLl : (wantL st now ls pl Du' M).length ≤ ls.length + pl.length := want_len
                      have hll8 := hS7.len
                      have HDI := hide (hS7.dispatched w2.heap.size ol.length M (ol.map ptr) hQ7 (by omega) (by omega) hML hT7 hW0)
                      have HFN : Hid (∀ (v' : Value) (w8 w9 : World), Disp W (Wset W A l0 s0 u0 l1 s1 u1) w2.heap.size qv ol.length (ol.map ptr) D h0 (wantL st now ls pl Du' M) Du' (hdL st ls) (cntL st ls) w7 v' w8 → w9 = (w8.setCell ⟨W, 4, none⟩ (.int .i32 1)).setCell ⟨W, 4, none⟩ (.int .i32 0) →
                          wm = (wantL st now ls pl Du' M).length ∧ (∃ qa qc, v' = .slice qa (ol.length + (wantL st now ls pl Du' M).length) qc ∧ Fin W D (hdL st ls) (cntL st ls) h0 ol ls pl (wantL st now ls pl Du' M) qa qc wa w1.heap.size w4.heap.size w5.heap.size w9) ∧ Below w.heap.size w7 w9) := fun v' w8 w9 hD e9 =>
                        hS7.fin hD hQ7 hB2 (by omega) hWant (fun g e => by have := unhide HQB g e; omega) hP7 (fun e => by have := (hQ7.lt _ e).1; omega) hL7 (fun e => by have := unhide HQB _ e; omega) hR7 (fun e => by have := unhide HQB _ e; omega) e9
                      have HND := hide hS7.nd
                      have HLN : Hid (wantL st now ls pl Du' M).Nodup := want_nodup hS7.nd
                      have HB7 := hide hB7
                      clear hS7 hQ7 hP7 hL7 hR7 hB7 hT7 hWant hBel HR6 HS6 HQ6 HP6 HL6 HB6 hML hMv h12 hB2 hlt6 hbs7 H12 HB2 HQB
                      obtain ⟨j31, hj31⟩ : ∃ j, Ybad.prog.info? 31 = some j := Option.isSome_iff_exists.1 (by kernel_rfl)
                      go_wp2_with (first
                        | (go_at_call 7; refine (unhide HDI).mono ?_; rintro e w8 ⟨rfl, v', hD⟩
                           have x4 : w8.cell? ⟨W, 4, none⟩ = some (.int .i32 0) := (by obtain ⟨F, f1, f2, _⟩ := hD.row; rw [f1.cell (by omega), f2])
                           have z4 : w8.frozen? ⟨W, 4, none⟩ = false := (by obtain ⟨F, f1, _⟩ := hD.row; exact f1.frozen 4)
                           have HD := hide hD; clear hD)
                        | (go_at_call 8; refine (trylock W 4 _ x4 z4).mono ?_; rintro e w8b ⟨rfl, rfl⟩)
                        | (go_at_call 9; refine (Go.MuLone.unlock_held Ybad.muLib ⟨W, 4, none⟩ _ (by simp [go_sem, x4]) (by simp [go_sem, z4])).mono ?_; rintro e w9 ⟨rfl, e9⟩
                           obtain ⟨hwm, ⟨qa, qc, hqv, hF⟩, hB9⟩ := unhide HFN _ _ _ (unhide HD) e9
                           clear e9 HD x4 z4 HFN HDI
                           subst hwm
                           generalize wantL st now ls pl Du' M = L at *
                           have c20 := hF.c20
                           have c7 := hF.c7
                           have c8 := hF.c8
                           have HF := hide hF
                           have HB9 := hide ((unhide HB7).trans hB9)
                           clear hF hB9 HB7))
                      go_loopw [31] (fun s wr => ∃ i : Nat, i ≤ ol.length ∧ s = .int .i64 i ∧ Fin W D (hdL st ls) (cntL st ls) h0 ol ls pl L qa qc wa w1.heap.size w4.heap.size w5.heap.size wr ∧ Below w.heap.size w wr) (fun s _ => ol.length - (intOf s).toNat)
                      case atStart => exact ⟨0, by omega, rfl, unhide HF, unhide HB9⟩
                      case round =>
                        obtain ⟨i, hi, rfl, hF, hB⟩ := hrel
                        clear c20 c7 c8 HF HB9
                        by_cases hlt : i < ol.length
                        · obtain ⟨t, ht⟩ : ∃ t, ol[i]? = some t := ⟨ol[i]'hlt, List.getElem?_eq_getElem hlt⟩
                          obtain ⟨g, hqa, cq⟩ := hF.q i t (by rw [List.getElem?_append_left hlt]; exact ht)
                          have co := hF.o i t ht
                          subst hqa
                          have c7 := hF.c7
                          unfold ptr at cq co
                          have hneq : ∀ w, (binOp .neq 26 (.pointer (some ⟨t, 0, none⟩)) (.pointer (some ⟨t, 0, none⟩))).run Ybad.prog w = .ok (.bool false) w := fun w => Lib.run_neq_ptr_same w _ Ybad.underlying26 hj31
                          have HF := hide hF
                          have HB := hide hB
                          clear hF hB ht
                          go_wp2_with fail
                          go_region
                          all_goals (go_wp2_with fail)
                          go_roundw
                          case rel => exact ⟨i + 1, by omega, by simp, (unhide HF).drew, (unhide HB).drew⟩
                          case measure => simp [intOf]; omega
                        · have hie : i = ol.length := by omega
                          subst hie
                          obtain ⟨wx, hwx⟩ : ∃ wx, wx = wr := ⟨_, rfl⟩
                          subst hwx
                          have HF := hide hF
                          have HB := hide hB
                          clear hF hB
                          go_wp2_with fail
                          go_loopw [246] (fun s wr => ∃ i : Nat, i ≤ L.length ∧ s = .int .i64 i ∧ Fin W D (hdL st ls) (cntL st ls) h0 ol ls pl L qa qc wa w1.heap.size w4.heap.size w5.heap.size wr ∧ Below w.heap.size w wr) (fun s _ => L.length - (intOf s).toNat)
                          case atStart => exact ⟨0, by omega, rfl, unhide HF, unhide HB⟩
                          case round =>
                            obtain ⟨i, hi, rfl, hF, hB⟩ := hrel
                            clear HF HB
                            by_cases hlt : i < L.length
                            · obtain ⟨t, ht⟩ : ∃ t, L[i]? = some t := ⟨L[i]'hlt, List.getElem?_eq_getElem hlt⟩
                              obtain ⟨g, hqa, cq⟩ := hF.q (ol.length + i) t (by rw [List.getElem?_append_right (by omega), Nat.add_sub_cancel_left]; exact ht)
                              obtain ⟨g', hwa, cw⟩ := hF.wn i t ht
                              have htL := List.mem_of_getElem? ht
                              have ct := hF.tk t (hF.sub t htL)
                              rw [if_pos htL] at ct
                              simp only [show ((1 : Nat) : Int) = 1 from rfl] at ct
                              subst hqa hwa
                              have c7 := hF.c7
                              unfold ptr at cq cw
                              have hneq : ∀ w, (binOp .neq 26 (.pointer (some ⟨t, 0, none⟩)) (.pointer (some ⟨t, 0, none⟩))).run Ybad.prog w = .ok (.bool false) w := fun w => Lib.run_neq_ptr_same w _ Ybad.underlying26 hj31
                              have HF := hide hF
                              have HB := hide hB
                              clear hF hB ht htL
                              go_wp2_with fail
                              go_roundw
                              case rel => exact ⟨i + 1, by omega, by simp, unhide HF, unhide HB⟩
                              case measure => simp [intOf]; omega
                            · have hie : i = L.length := by omega
                              subst hie
                              obtain ⟨wy, hwy⟩ : ∃ wy, wy = wr := ⟨_, rfl⟩
                              subst hwy
                              have HF := hide hF
                              have HB := hide hB
                              clear hF hB
                              go_wp2_with fail
                              go_loopw [34, 272] (fun tt s wr => ∃ i : Nat, i ≤ ls.length ∧ s = .int .i64 i ∧ tt = .int .i64 (tot L (ls.take i)) ∧ Fin W D (hdL st ls) (cntL st ls) h0 ol ls pl L qa qc wa w1.heap.size w4.heap.size w5.heap.size wr ∧ Below w.heap.size w wr) (fun _ s _ => ls.length - (intOf s).toNat)
                              case atStart => exact ⟨0, by omega, rfl, rfl, unhide HF, unhide HB⟩
                              case round =>
                                obtain ⟨i, hi, rfl, rfl, hF, hB⟩ := hrel
                                clear HF HB
                                by_cases hlt : i < ls.length
                                · obtain ⟨t, ht⟩ : ∃ t, ls[i]? = some t := ⟨ls[i]'hlt, List.getElem?_eq_getElem hlt⟩
                                  have cl := hF.l i t ht
                                  have ct := hF.tk t (by simp [List.mem_of_getElem? ht])
                                  have HTT := hide (tot_take (L := L) ht)
                                  have hT1 := tot_le L (ls.take i)
                                  rw [List.length_take] at hT1
                                  generalize tot L (ls.take i) = T at *
                                  obtain ⟨kx, hkx, hk1⟩ : ∃ kx : Nat, (if t ∈ L then 1 else 0 : Nat) = kx ∧ kx ≤ 1 := ⟨_, rfl, by split <;> omega⟩
                                  rw [hkx] at ct HTT
                                  unfold ptr at cl
                                  have HF := hide hF
                                  have HB := hide hB
                                  clear hF hB ht hkx
                                  go_wp2_with fail
                                  go_roundw
                                  case rel => exact ⟨i + 1, by omega, by simp, by rw [unhide HTT]; simp, unhide HF, unhide HB⟩
                                  case measure => simp [intOf]; omega
                                · have hie : i = ls.length := by omega
                                  subst hie
                                  rw [List.take_length]
                                  obtain ⟨wz, hwz⟩ : ∃ wz, wz = wr := ⟨_, rfl⟩
                                  subst hwz
                                  have HF := hide hF
                                  have HB := hide hB
                                  have hT0 := tot_le L ls
                                  clear hF hB
                                  have HTA := hide (tot_all (unhide HLN) (unhide HND) (unhide HF).sub)
                                  generalize tot L ls = T0 at *
                                  go_wp2_with fail
                                  go_loopw [34, 286] (fun tt s wr => ∃ i : Nat, i ≤ pl.length ∧ s = .int .i64 i ∧ tt = .int .i64 ((T0 + tot L (pl.take i) : Nat) : Int) ∧ Fin W D (hdL st ls) (cntL st ls) h0 ol ls pl L qa qc wa w1.heap.size w4.heap.size w5.heap.size wr ∧ Below w.heap.size w wr) (fun _ s _ => pl.length - (intOf s).toNat)
                                  case atStart => exact ⟨0, by omega, rfl, rfl, unhide HF, unhide HB⟩
                                  case round =>
                                    obtain ⟨i, hi, rfl, rfl, hF, hB⟩ := hrel
                                    clear HF HB
                                    by_cases hlt : i < pl.length
                                    · obtain ⟨t, ht⟩ : ∃ t, pl[i]? = some t := ⟨pl[i]'hlt, List.getElem?_eq_getElem hlt⟩
                                      have cl := hF.p i t ht
                                      have ct := hF.tk t (by simp [List.mem_of_getElem? ht])
                                      have HTT := hide (tot_take (L := L) ht)
                                      have hT1 := tot_le L (pl.take i)
                                      rw [List.length_take] at hT1
                                      generalize tot L (pl.take i) = T at *
                                      obtain ⟨TT, hTT⟩ : ∃ TT, TT = T0 + T := ⟨_, rfl⟩
                                      rw [← hTT]
                                      obtain ⟨kx, hkx, hk1⟩ : ∃ kx : Nat, (if t ∈ L then 1 else 0 : Nat) = kx ∧ kx ≤ 1 := ⟨_, rfl, by split <;> omega⟩
                                      rw [hkx] at ct HTT
                                      unfold ptr at cl
                                      have HF := hide hF
                                      have HB := hide hB
                                      clear hF hB ht hkx
                                      go_wp2_with fail
                                      go_roundw
                                      case rel => exact ⟨i + 1, by omega, by simp, by rw [unhide HTT]; simp; omega, unhide HF, unhide HB⟩
                                      case measure => simp [intOf]; omega
                                    · have hie : i = pl.length := by omega
                                      subst hie
                                      rw [List.take_length, unhide HTA]
                                      have c11 := hF.c11
                                      have c12 := hF.c12
                                      have HB := hide hB
                                      clear hF hB
                                      cases st with
                                      | true =>
                                        have e12 : cntL true ls = ls.length := if_pos rfl
                                        rw [e12] at c12
                                        go_wp2_with fail
                                        go_ret
                                        exact ⟨rfl, unhide HB⟩
                                      | false =>
                                        have e11 : hdL false ls = none := if_neg (by decide)
                                        have e12 : cntL false ls = 0 := if_neg (by decide)
                                        rw [e11] at c11
                                        rw [e12] at c12
                                        unfold tp at c11
                                        by_cases hk0 : 0 < ls.length
                                        · go_wp2_with fail
                                          go_ret
                                          exact ⟨rfl, unhide HB⟩
                                        · go_wp2_with fail
                                          go_ret
                                          exact ⟨rfl, unhide HB⟩
set_option maxRecDepth 100000 in
theorem law_long (st : Bool) (now : Int) (a0 : Option Addr) (n cap0 : Nat) (al pr hdd : Int) (w : World) (hn : 1024 < n) (hm : n ≤ 9223372036854775807) :
    Calls Ybad.prog 3 #[.bool st, .int .i64 now, .slice a0 n cap0, .int .u8 al, .int .u8 pr, .int .u8 hdd] w fun e w' => e = .returned (.bool true) ∧ Below w.heap.size w w' := by
  go_enter Ybad.func3, Ybad.ntmps3
  go_wp2_with fail
  go_ret
  exact ⟨rfl, Below.refl _ _⟩
end Go.Proofs.YbulkcyrqDoor
