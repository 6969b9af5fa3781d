/-
  Bounds of what xatanF, satanF, asinF, acosF, cosF and nlF give: laid by a program of mine (wip/tools/fgen.py), interval by interval; the joints by hand.
-/
import Derived.Test.YbulkcyuwDoorPure
namespace Go.Proofs.YbulkcyuwDoor
open Ieee

theorem int_lt_or_ge (a b : Int) : a < b ∨ b ≤ a := by omega
theorem ford_fine {x y : Nat} (hx : Fine x) (hy : Fine y) : ford x y = some (compare (val x) (val y)) := order_fine hx hy
theorem cmp_lt {a b : Int} (h : a < b) : compare a b = .lt := by simp [compare, compareOfLessAndEq, h]
theorem cmp_eq {a b : Int} (h : a = b) : compare a b = .eq := by simp [compare, compareOfLessAndEq, h]
theorem cmp_gt {a b : Int} (h : b < a) : compare a b = .gt := by
  have h1 : ¬ a < b := by omega
  have h2 : ¬ a = b := by omega
  simp [compare, compareOfLessAndEq, h1, h2]
theorem fgtB_fine {x y : Nat} (hx : Fine x) (hy : Fine y) : fgtB x y = decide (val y < val x) := by
  unfold fgtB; rw [ford_fine hx hy]
  rcases Int.lt_trichotomy (val x) (val y) with h | h | h
  · rw [cmp_lt h, decide_eq_false (by omega)]; rfl
  · rw [cmp_eq h, decide_eq_false (by omega)]; rfl
  · rw [cmp_gt h, decide_eq_true h]; rfl
theorem fltB_fine {x y : Nat} (hx : Fine x) (hy : Fine y) : fltB x y = decide (val x < val y) := by
  unfold fltB; rw [ford_fine hx hy]
  rcases Int.lt_trichotomy (val x) (val y) with h | h | h
  · rw [cmp_lt h, decide_eq_true h]; rfl
  · rw [cmp_eq h, decide_eq_false (by omega)]; rfl
  · rw [cmp_gt h, decide_eq_false (by omega)]; rfl
theorem feqB_fine {x y : Nat} (hx : Fine x) (hy : Fine y) : feqB x y = decide (val x = val y) := by
  unfold feqB; rw [ford_fine hx hy]
  rcases Int.lt_trichotomy (val x) (val y) with h | h | h
  · rw [cmp_lt h, decide_eq_false (by omega)]; rfl
  · rw [cmp_eq h, decide_eq_true h]; rfl
  · rw [cmp_gt h, decide_eq_false (by omega)]; rfl
theorem fleB_fine {x y : Nat} (hx : Fine x) (hy : Fine y) : fleB x y = decide (val x ≤ val y) := by
  unfold fleB; rw [ford_fine hx hy]
  rcases Int.lt_trichotomy (val x) (val y) with h | h | h
  · rw [cmp_lt h, decide_eq_true (by omega)]; rfl
  · rw [cmp_eq h, decide_eq_true (by omega)]; rfl
  · rw [cmp_gt h, decide_eq_false (by omega)]; rfl
theorem fgeB_fine {x y : Nat} (hx : Fine x) (hy : Fine y) : fgeB x y = decide (val y ≤ val x) := by
  unfold fgeB; rw [ford_fine hx hy]
  rcases Int.lt_trichotomy (val x) (val y) with h | h | h
  · rw [cmp_lt h, decide_eq_false (by omega)]; rfl
  · rw [cmp_eq h, decide_eq_true (by omega)]; rfl
  · rw [cmp_gt h, decide_eq_true (by omega)]; rfl

theorem fneg_lt {x : Nat} (h : x < 2 ^ 64) : fneg x < 2 ^ 64 := Nat.xor_lt_two_pow h (by decide)
theorem fneg_mod (x : Nat) : fneg x % 2 ^ 63 = x % 2 ^ 63 := by
  show (x ^^^ 2 ^ 63) % 2 ^ 63 = _
  rw [Nat.xor_mod_two_pow]; simp
theorem fneg_div (x : Nat) : fneg x / 2 ^ 63 = x / 2 ^ 63 ^^^ 1 := by
  show (x ^^^ 2 ^ 63) / 2 ^ 63 = _
  rw [Nat.xor_div_two_pow]
theorem fneg_eq {x : Nat} (h : x < 2 ^ 64) : fneg x = negW x := by
  have h1 := fneg_mod x
  have h2 := fneg_div x
  have hd : x / 2 ^ 63 = 0 ∨ x / 2 ^ 63 = 1 := by omega
  unfold negW
  rcases hd with e | e
  · rw [e] at h2 ⊢
    have h3 : (0 ^^^ 1 : Nat) = 1 := by decide
    rw [h3] at h2
    simp only [Nat.zero_mod, Nat.zero_ne_one, if_false]; omega
  · rw [e] at h2 ⊢
    have h3 : (1 ^^^ 1 : Nat) = 0 := by decide
    rw [h3] at h2
    simp only [Nat.one_mod, if_true]; omega
theorem fneg_bt {a x b : Nat} (h : Bt a x b) : Bt (negW b) (fneg x) (negW a) := by rw [fneg_eq h.fine.1]; exact neg_bt h

theorem xatan_a {x : Nat} (bx : Bt 4591870180066957722 x 4596373779694328218) : ∃ r, xatanF x = some r ∧ Bt 4591149604126578442 r 4604480259023595110 := by
  obtain ⟨n1, hn1, bn1⟩ := mul_bt 4576918229304087675 4585925428558828668 bx bx (by kernel_rfl)
  obtain ⟨n2, hn2, bn2⟩ := mul_bt 13808577240307257440 13799570041052516446 (Bt.const (k := 13829429103926125972) (by kernel_rfl)) bn1 (by kernel_rfl)
  obtain ⟨n3, hn3, bn3⟩ := add_bt 13848623049249818595 13848615660017762900 bn2 (Bt.const (k := 13848613196940411002) (by kernel_rfl)) (by kernel_rfl)
  obtain ⟨n4, hn4, bn4⟩ := mul_bt 13827381233632582006 13818364576160809723 bn3 bn1 (by kernel_rfl)
  obtain ⟨n5, hn5, bn5⟩ := add_bt 13858396289762404262 13858362087828977268 bn4 (Bt.const (k := 13858350711815275123) (by kernel_rfl)) (by kernel_rfl)
  obtain ⟨n6, hn6, bn6⟩ := mul_bt 13837368965697364182 13828317987967836636 bn5 bn1 (by kernel_rfl)
  obtain ⟨n7, hn7, bn7⟩ := add_bt 13861932787765410092 13861772730666953064 bn6 (Bt.const (k := 13861719834326579749) (by kernel_rfl)) (by kernel_rfl)
  obtain ⟨n8, hn8, bn8⟩ := mul_bt 13840728669025372927 13831619033227619435 bn7 bn1 (by kernel_rfl)
  obtain ⟨n9, hn9, bn9⟩ := add_bt 13857990295624750398 13857722885034552895 bn8 (Bt.const (k := 13857635882265799822) (by kernel_rfl)) (by kernel_rfl)
  obtain ⟨n10, hn10, bn10⟩ := mul_bt 13836849293201167236 13827499808390973438 bn1 bn9 (by kernel_rfl)
  obtain ⟨n11, hn11, bn11⟩ := add_bt 4627693068261086718 4627701512510388039 bn1 (Bt.const (k := 4627690253511319612) (by kernel_rfl)) (by kernel_rfl)
  obtain ⟨n12, hn12, bn12⟩ := mul_bt 4598127829031601436 4607145836925448121 bn11 bn1 (by kernel_rfl)
  obtain ⟨n13, hn13, bn13⟩ := add_bt 4640019138096089910 4640045429757007509 bn12 (Bt.const (k := 4640010388282866213) (by kernel_rfl)) (by kernel_rfl)
  obtain ⟨n14, hn14, bn14⟩ := mul_bt 4610122174733414305 4619163027314129826 bn13 bn1 (by kernel_rfl)
  obtain ⟨n15, hn15, bn15⟩ := add_bt 4646352015950537002 4646439768606733098 bn14 (Bt.const (k := 4646322940342877755) (by kernel_rfl)) (by kernel_rfl)
  obtain ⟨n16, hn16, bn16⟩ := mul_bt 4616578434273100622 4625641795227807117 bn15 bn1 (by kernel_rfl)
  obtain ⟨n17, hn17, bn17⟩ := add_bt 4647323138403768567 4647555980502784195 bn16 (Bt.const (k := 4647246694406179306) (by kernel_rfl)) (by kernel_rfl)
  obtain ⟨n18, hn18, bn18⟩ := mul_bt 4617199952643168823 4626356170841279819 bn17 bn1 (by kernel_rfl)
  obtain ⟨n19, hn19, bn19⟩ := add_bt 4641221469719714749 4641757028420365462 bn18 (Bt.const (k := 4641049159275471596) (by kernel_rfl)) (by kernel_rfl)
  obtain ⟨n20, hn20, bn20⟩ := div_bt 13802605350056666808 13792617060955896202 bn10 bn19 (by kernel_rfl)
  obtain ⟨n21, hn21, bn21⟩ := mul_bt 13791982212517758305 13777686541758823125 bx bn20 (by kernel_rfl)
  obtain ⟨n22, hn22, bn22⟩ := add_bt 4591668187781436782 4596362688129367581 bn21 bx (by kernel_rfl)
  exact ⟨_, (bind_to hn1 (bind_to hn2 (bind_to hn3 (bind_to hn4 (bind_to hn5 (bind_to hn6 (bind_to hn7 (bind_to hn8 (bind_to hn9 (bind_to hn10 (bind_to hn11 (bind_to hn12 (bind_to hn13 (bind_to hn14 (bind_to hn15 (bind_to hn16 (bind_to hn17 (bind_to hn18 (bind_to hn19 (bind_to hn20 (bind_to hn21 hn22))))))))))))))))))))), (Bt.weak bn22 (by kernel_rfl))⟩

theorem xatan_b {x : Nat} (bx : Bt 4596373779694328218 x 4599976659396224614) : ∃ r, xatanF x = some r ∧ Bt 4591149604126578442 r 4604480259023595110 := by
  obtain ⟨n1, hn1, bn1⟩ := mul_bt 4585925428558828667 4593491475932811100 bx bx (by kernel_rfl)
  obtain ⟨n2, hn2, bn2⟩ := mul_bt 13815760668093493009 13808577240307257438 (Bt.const (k := 13829429103926125972) (by kernel_rfl)) bn1 (by kernel_rfl)
  obtain ⟨n3, hn3, bn3⟩ := add_bt 13848643369637971754 13848623049249818594 bn2 (Bt.const (k := 13848613196940411002) (by kernel_rfl)) (by kernel_rfl)
  obtain ⟨n4, hn4, bn4⟩ := mul_bt 13835023961625514138 13827381233632582003 bn3 bn1 (by kernel_rfl)
  obtain ⟨n5, hn5, bn5⟩ := add_bt 13858490916590245302 13858396289762404261 bn4 (Bt.const (k := 13858350711815275123) (by kernel_rfl)) (by kernel_rfl)
  obtain ⟨n6, hn6, bn6⟩ := mul_bt 13844871748452161822 13837368965697364179 bn5 bn1 (by kernel_rfl)
  obtain ⟨n7, hn7, bn7⟩ := add_bt 13862231624532897445 13861932787765410091 bn6 (Bt.const (k := 13861719834326579749) (by kernel_rfl)) (by kernel_rfl)
  obtain ⟨n8, hn8, bn8⟩ := mul_bt 13848627714228508332 13840728669025372924 bn7 bn1 (by kernel_rfl)
  obtain ⟨n9, hn9, bn9⟩ := add_bt 13858776497188700729 13857990295624750397 bn8 (Bt.const (k := 13857635882265799822) (by kernel_rfl)) (by kernel_rfl)
  obtain ⟨n10, hn10, bn10⟩ := mul_bt 13845151617438648141 13836849293201167233 bn1 bn9 (by kernel_rfl)
  obtain ⟨n11, hn11, bn11⟩ := add_bt 4627701512510388038 4627724734195966668 bn1 (Bt.const (k := 4627690253511319612) (by kernel_rfl)) (by kernel_rfl)
  obtain ⟨n12, hn12, bn12⟩ := mul_bt 4607145836925448117 4614073304983578425 bn11 bn1 (by kernel_rfl)
  obtain ⟨n13, hn13, bn13⟩ := add_bt 4640045429757007508 4640118058379484354 bn12 (Bt.const (k := 4640010388282866213) (by kernel_rfl)) (by kernel_rfl)
  obtain ⟨n14, hn14, bn14⟩ := mul_bt 4619163027314129822 4626488978661067987 bn13 bn1 (by kernel_rfl)
  obtain ⟨n15, hn15, bn15⟩ := add_bt 4646439768606733097 4646685175404061449 bn14 (Bt.const (k := 4646322940342877755) (by kernel_rfl)) (by kernel_rfl)
  obtain ⟨n16, hn16, bn16⟩ := mul_bt 4625641795227807114 4633014825337700950 bn15 bn1 (by kernel_rfl)
  obtain ⟨n17, hn17, bn17⟩ := add_bt 4647555980502784194 4647969380428028187 bn16 (Bt.const (k := 4647246694406179306) (by kernel_rfl)) (by kernel_rfl)
  obtain ⟨n18, hn18, bn18⟩ := mul_bt 4626356170841279817 4634363418253735763 bn17 bn1 (by kernel_rfl)
  obtain ⟨n19, hn19, bn19⟩ := add_bt 4641757028420365461 4643295937876442955 bn18 (Bt.const (k := 4641049159275471596) (by kernel_rfl)) (by kernel_rfl)
  obtain ⟨n20, hn20, bn20⟩ := div_bt 13810199060365207439 13800704263793772826 bn10 bn19 (by kernel_rfl)
  obtain ⟨n21, hn21, bn21⟩ := mul_bt 13803695599995445784 13790461343507443118 bx bn20 (by kernel_rfl)
  obtain ⟨n22, hn22, bn22⟩ := add_bt 4595790486977797463 4599938043113987467 bn21 bx (by kernel_rfl)
  exact ⟨_, (bind_to hn1 (bind_to hn2 (bind_to hn3 (bind_to hn4 (bind_to hn5 (bind_to hn6 (bind_to hn7 (bind_to hn8 (bind_to hn9 (bind_to hn10 (bind_to hn11 (bind_to hn12 (bind_to hn13 (bind_to hn14 (bind_to hn15 (bind_to hn16 (bind_to hn17 (bind_to hn18 (bind_to hn19 (bind_to hn20 (bind_to hn21 hn22))))))))))))))))))))), (Bt.weak bn22 (by kernel_rfl))⟩

theorem xatan_c {x : Nat} (bx : Bt 4599976659396224614 x 4604119971053405471) : ∃ r, xatanF x = some r ∧ Bt 4591149604126578442 r 4604480259023595110 := by
  obtain ⟨n1, hn1, bn1⟩ := mul_bt 4593491475932811099 4601518691908636273 bx bx (by kernel_rfl)
  obtain ⟨n2, hn2, bn2⟩ := mul_bt 13823910322337397178 13815760668093493008 (Bt.const (k := 13829429103926125972) (by kernel_rfl)) bn1 (by kernel_rfl)
  obtain ⟨n3, hn3, bn3⟩ := add_bt 13848720488589859681 13848643369637971753 bn2 (Bt.const (k := 13848613196940411002) (by kernel_rfl)) (by kernel_rfl)
  obtain ⟨n4, hn4, bn4⟩ := mul_bt 13843169335096032465 13835023961625514134 bn3 bn1 (by kernel_rfl)
  obtain ⟨n5, hn5, bn5⟩ := add_bt 13858857666803641921 13858490916590245301 bn4 (Bt.const (k := 13858350711815275123) (by kernel_rfl)) (by kernel_rfl)
  obtain ⟨n6, hn6, bn6⟩ := mul_bt 13853608931740326312 13844871748452161820 bn5 bn1 (by kernel_rfl)
  obtain ⟨n7, hn7, bn7⟩ := add_bt 13863159763080495997 13862231624532897444 bn6 (Bt.const (k := 13861719834326579749) (by kernel_rfl)) (by kernel_rfl)
  obtain ⟨n8, hn8, bn8⟩ := mul_bt 13857936981648726903 13848627714228508330 bn7 bn1 (by kernel_rfl)
  obtain ⟨n9, hn9, bn9⟩ := add_bt 13862290031584633859 13858776497188700728 bn8 (Bt.const (k := 13857635882265799822) (by kernel_rfl)) (by kernel_rfl)
  obtain ⟨n10, hn10, bn10⟩ := mul_bt 13856782489720047424 13845151617438648138 bn1 bn9 (by kernel_rfl)
  obtain ⟨n11, hn11, bn11⟩ := add_bt 4627724734195966667 4627812864011174774 bn1 (Bt.const (k := 4627690253511319612) (by kernel_rfl)) (by kernel_rfl)
  obtain ⟨n12, hn12, bn12⟩ := mul_bt 4614073304983578422 4622392253936623170 bn11 bn1 (by kernel_rfl)
  obtain ⟨n13, hn13, bn13⟩ := add_bt 4640118058379484353 4640398053025482762 bn12 (Bt.const (k := 4640010388282866213) (by kernel_rfl)) (by kernel_rfl)
  obtain ⟨n14, hn14, bn14⟩ := mul_bt 4626488978661067984 4635096661501904249 bn13 bn1 (by kernel_rfl)
  obtain ⟨n15, hn15, bn15⟩ := add_bt 4646685175404061448 4647672001484136346 bn14 (Bt.const (k := 4646322940342877755) (by kernel_rfl)) (by kernel_rfl)
  obtain ⟨n16, hn16, bn16⟩ := mul_bt 4633014825337700947 4642013789031088571 bn15 bn1 (by kernel_rfl)
  obtain ⟨n17, hn17, bn17⟩ := add_bt 4647969380428028186 4649433198042977636 bn16 (Bt.const (k := 4647246694406179306) (by kernel_rfl)) (by kernel_rfl)
  obtain ⟨n18, hn18, bn18⟩ := mul_bt 4634363418253735761 4644128207105156423 bn17 bn1 (by kernel_rfl)
  obtain ⟨n19, hn19, bn19⟩ := add_bt 4643295937876442954 4647550778460772029 bn18 (Bt.const (k := 4641049159275471596) (by kernel_rfl)) (by kernel_rfl)
  obtain ⟨n20, hn20, bn20⟩ := div_bt 13820602030252082769 13804722912274486046 bn10 bn19 (by kernel_rfl)
  obtain ⟨n21, hn21, bn21⟩ := mul_bt 13817860959395780447 13797993174624259574 bx bn20 (by kernel_rfl)
  obtain ⟨n22, hn22, bn22⟩ := add_bt 4596457196996703597 4604057696712657028 bn21 bx (by kernel_rfl)
  exact ⟨_, (bind_to hn1 (bind_to hn2 (bind_to hn3 (bind_to hn4 (bind_to hn5 (bind_to hn6 (bind_to hn7 (bind_to hn8 (bind_to hn9 (bind_to hn10 (bind_to hn11 (bind_to hn12 (bind_to hn13 (bind_to hn14 (bind_to hn15 (bind_to hn16 (bind_to hn17 (bind_to hn18 (bind_to hn19 (bind_to hn20 (bind_to hn21 hn22))))))))))))))))))))), (Bt.weak bn22 (by kernel_rfl))⟩

theorem xatan_d {x : Nat} (bx : Bt 0 x 4604119971053405471) : ∃ r, xatanF x = some r ∧ Bt 13821547256400052224 r 4604480259023595110 := by
  obtain ⟨n1, hn1, bn1⟩ := mul_bt 0 4601518691908636273 bx bx (by kernel_rfl)
  obtain ⟨n2, hn2, bn2⟩ := mul_bt 13823910322337397178 0 (Bt.const (k := 13829429103926125972) (by kernel_rfl)) bn1 (by kernel_rfl)
  obtain ⟨n3, hn3, bn3⟩ := add_bt 13848720488589859681 13848613196940411002 bn2 (Bt.const (k := 13848613196940411002) (by kernel_rfl)) (by kernel_rfl)
  obtain ⟨n4, hn4, bn4⟩ := mul_bt 13843169335096032465 0 bn3 bn1 (by kernel_rfl)
  obtain ⟨n5, hn5, bn5⟩ := add_bt 13858857666803641921 13858350711815275123 bn4 (Bt.const (k := 13858350711815275123) (by kernel_rfl)) (by kernel_rfl)
  obtain ⟨n6, hn6, bn6⟩ := mul_bt 13853608931740326312 0 bn5 bn1 (by kernel_rfl)
  obtain ⟨n7, hn7, bn7⟩ := add_bt 13863159763080495997 13861719834326579749 bn6 (Bt.const (k := 13861719834326579749) (by kernel_rfl)) (by kernel_rfl)
  obtain ⟨n8, hn8, bn8⟩ := mul_bt 13857936981648726903 0 bn7 bn1 (by kernel_rfl)
  obtain ⟨n9, hn9, bn9⟩ := add_bt 13862290031584633859 13857635882265799822 bn8 (Bt.const (k := 13857635882265799822) (by kernel_rfl)) (by kernel_rfl)
  obtain ⟨n10, hn10, bn10⟩ := mul_bt 13856782489720047424 0 bn1 bn9 (by kernel_rfl)
  obtain ⟨n11, hn11, bn11⟩ := add_bt 4627690253511319612 4627812864011174774 bn1 (Bt.const (k := 4627690253511319612) (by kernel_rfl)) (by kernel_rfl)
  obtain ⟨n12, hn12, bn12⟩ := mul_bt 0 4622392253936623170 bn11 bn1 (by kernel_rfl)
  obtain ⟨n13, hn13, bn13⟩ := add_bt 4640010388282866213 4640398053025482762 bn12 (Bt.const (k := 4640010388282866213) (by kernel_rfl)) (by kernel_rfl)
  obtain ⟨n14, hn14, bn14⟩ := mul_bt 0 4635096661501904249 bn13 bn1 (by kernel_rfl)
  obtain ⟨n15, hn15, bn15⟩ := add_bt 4646322940342877755 4647672001484136346 bn14 (Bt.const (k := 4646322940342877755) (by kernel_rfl)) (by kernel_rfl)
  obtain ⟨n16, hn16, bn16⟩ := mul_bt 0 4642013789031088571 bn15 bn1 (by kernel_rfl)
  obtain ⟨n17, hn17, bn17⟩ := add_bt 4647246694406179306 4649433198042977636 bn16 (Bt.const (k := 4647246694406179306) (by kernel_rfl)) (by kernel_rfl)
  obtain ⟨n18, hn18, bn18⟩ := mul_bt 0 4644128207105156423 bn17 bn1 (by kernel_rfl)
  obtain ⟨n19, hn19, bn19⟩ := add_bt 4641049159275471596 4647550778460772029 bn18 (Bt.const (k := 4641049159275471596) (by kernel_rfl)) (by kernel_rfl)
  obtain ⟨n20, hn20, bn20⟩ := div_bt 13822447623875900737 0 bn10 bn19 (by kernel_rfl)
  obtain ⟨n21, hn21, bn21⟩ := mul_bt 13819673293721560325 0 bx bn20 (by kernel_rfl)
  obtain ⟨n22, hn22, bn22⟩ := add_bt 13819673293721560325 4604119971053405471 bn21 bx (by kernel_rfl)
  exact ⟨_, (bind_to hn1 (bind_to hn2 (bind_to hn3 (bind_to hn4 (bind_to hn5 (bind_to hn6 (bind_to hn7 (bind_to hn8 (bind_to hn9 (bind_to hn10 (bind_to hn11 (bind_to hn12 (bind_to hn13 (bind_to hn14 (bind_to hn15 (bind_to hn16 (bind_to hn17 (bind_to hn18 (bind_to hn19 (bind_to hn20 (bind_to hn21 hn22))))))))))))))))))))), (Bt.weak bn22 (by kernel_rfl))⟩

theorem xatan_e {x : Nat} (bx : Bt 13819919449305821924 x 4588842458871689373) : ∃ r, xatanF x = some r ∧ Bt 13821547256400052224 r 4593311331947716280 := by
  obtain ⟨n1, hn1, bn1⟩ := sq_bt 0 4586206588107056204 bx (by kernel_rfl)
  obtain ⟨n2, hn2, bn2⟩ := mul_bt 13808823272023327536 0 (Bt.const (k := 13829429103926125972) (by kernel_rfl)) bn1 (by kernel_rfl)
  obtain ⟨n3, hn3, bn3⟩ := add_bt 13848623529780514044 13848613196940411002 bn2 (Bt.const (k := 13848613196940411002) (by kernel_rfl)) (by kernel_rfl)
  obtain ⟨n4, hn4, bn4⟩ := mul_bt 13827666421656678611 0 bn3 bn1 (by kernel_rfl)
  obtain ⟨n5, hn5, bn5⟩ := add_bt 13858398517793842517 13858350711815275123 bn4 (Bt.const (k := 13858350711815275123) (by kernel_rfl)) (by kernel_rfl)
  obtain ⟨n6, hn6, bn6⟩ := mul_bt 13837704323544518315 0 bn5 bn1 (by kernel_rfl)
  obtain ⟨n7, hn7, bn7⟩ := add_bt 13861943267698133659 13861719834326579749 bn6 (Bt.const (k := 13861719834326579749) (by kernel_rfl)) (by kernel_rfl)
  obtain ⟨n8, hn8, bn8⟩ := mul_bt 13841012278464570497 0 bn7 bn1 (by kernel_rfl)
  obtain ⟨n9, hn9, bn9⟩ := add_bt 13858008021214700247 13857635882265799822 bn8 (Bt.const (k := 13857635882265799822) (by kernel_rfl)) (by kernel_rfl)
  obtain ⟨n10, hn10, bn10⟩ := mul_bt 13837180109237085057 0 bn1 bn9 (by kernel_rfl)
  obtain ⟨n11, hn11, bn11⟩ := add_bt 4627690253511319612 4627702061650130671 bn1 (Bt.const (k := 4627690253511319612) (by kernel_rfl)) (by kernel_rfl)
  obtain ⟨n12, hn12, bn12⟩ := mul_bt 0 4607383260239280707 bn11 bn1 (by kernel_rfl)
  obtain ⟨n13, hn13, bn13⟩ := add_bt 4640010388282866213 4640047141728699290 bn12 (Bt.const (k := 4640010388282866213) (by kernel_rfl)) (by kernel_rfl)
  obtain ⟨n14, hn14, bn14⟩ := mul_bt 0 4619530004712903359 bn13 bn1 (by kernel_rfl)
  obtain ⟨n15, hn15, bn15⟩ := add_bt 4646322940342877755 4646445502628588934 bn14 (Bt.const (k := 4646322940342877755) (by kernel_rfl)) (by kernel_rfl)
  obtain ⟨n16, hn16, bn16⟩ := mul_bt 0 4625887002975289954 bn15 bn1 (by kernel_rfl)
  obtain ⟨n17, hn17, bn17⟩ := add_bt 4647246694406179306 4647571305987001873 bn16 (Bt.const (k := 4647246694406179306) (by kernel_rfl)) (by kernel_rfl)
  obtain ⟨n18, hn18, bn18⟩ := mul_bt 0 4626642659054445336 bn17 bn1 (by kernel_rfl)
  obtain ⟨n19, hn19, bn19⟩ := add_bt 4641049159275471596 4641792839447011151 bn18 (Bt.const (k := 4641049159275471596) (by kernel_rfl)) (by kernel_rfl)
  obtain ⟨n20, hn20, bn20⟩ := div_bt 13803244042536090822 0 bn10 bn19 (by kernel_rfl)
  obtain ⟨n21, hn21, bn21⟩ := mul_bt 13784914521716960838 4569289194878333979 bx bn20 (by kernel_rfl)
  obtain ⟨n22, hn22, bn22⟩ := add_bt 13819952274546410259 4589228451217113072 bn21 bx (by kernel_rfl)
  exact ⟨_, (bind_to hn1 (bind_to hn2 (bind_to hn3 (bind_to hn4 (bind_to hn5 (bind_to hn6 (bind_to hn7 (bind_to hn8 (bind_to hn9 (bind_to hn10 (bind_to hn11 (bind_to hn12 (bind_to hn13 (bind_to hn14 (bind_to hn15 (bind_to hn16 (bind_to hn17 (bind_to hn18 (bind_to hn19 (bind_to hn20 (bind_to hn21 hn22))))))))))))))))))))), (Bt.weak bn22 (by kernel_rfl))⟩

theorem octant_0 {x : Nat} (bx : Bt 0 x 4605250374559875465) : ∃ r, octant x 0 = some r ∧ Bt 0 r 4605250374559875465 := by
  obtain ⟨n1, hn1, bn1⟩ := mul_bt 0 0 (Bt.const (k := 0) (by kernel_rfl)) (Bt.const (k := 4605249456957292544) (by kernel_rfl)) (by kernel_rfl)
  obtain ⟨n2, hn2, bn2⟩ := sub_bt 0 4605250374559875465 bx bn1 (by kernel_rfl)
  obtain ⟨n3, hn3, bn3⟩ := mul_bt 0 0 (Bt.const (k := 0) (by kernel_rfl)) (Bt.const (k := 4495793288086814720) (by kernel_rfl)) (by kernel_rfl)
  obtain ⟨n4, hn4, bn4⟩ := sub_bt 0 4605250374559875465 bn2 bn3 (by kernel_rfl)
  obtain ⟨n5, hn5, bn5⟩ := mul_bt 0 0 (Bt.const (k := 0) (by kernel_rfl)) (Bt.const (k := 4388835458085048688) (by kernel_rfl)) (by kernel_rfl)
  obtain ⟨n6, hn6, bn6⟩ := sub_bt 0 4605250374559875465 bn4 bn5 (by kernel_rfl)
  exact ⟨_, (bind_to hn1 (bind_to hn2 (bind_to hn3 (bind_to hn4 (bind_to hn5 hn6))))), bn6⟩

theorem octant_2 {x : Nat} (bx : Bt 4605248573120024517 x 4609517248213581321) : ∃ r, octant x 4611686018427387904 = some r ∧ Bt 13828622378329361004 r 13811078736645579240 := by
  obtain ⟨n1, hn1, bn1⟩ := mul_bt 4609753056584663040 4609753056584663040 (Bt.const (k := 4611686018427387904) (by kernel_rfl)) (Bt.const (k := 4605249456957292544) (by kernel_rfl)) (by kernel_rfl)
  obtain ⟨n2, hn2, bn2⟩ := sub_bt 13828622377649336379 13811078725765185248 bx bn1 (by kernel_rfl)
  obtain ⟨n3, hn3, bn3⟩ := mul_bt 4500296887714185216 4500296887714185216 (Bt.const (k := 4611686018427387904) (by kernel_rfl)) (Bt.const (k := 4495793288086814720) (by kernel_rfl)) (by kernel_rfl)
  obtain ⟨n4, hn4, bn4⟩ := sub_bt 13828622378329360955 13811078736645578464 bn2 bn3 (by kernel_rfl)
  obtain ⟨n5, hn5, bn5⟩ := mul_bt 4393339057712419184 4393339057712419184 (Bt.const (k := 4611686018427387904) (by kernel_rfl)) (Bt.const (k := 4388835458085048688) (by kernel_rfl)) (by kernel_rfl)
  obtain ⟨n6, hn6, bn6⟩ := sub_bt 13828622378329361004 13811078736645579240 bn4 bn5 (by kernel_rfl)
  exact ⟨_, (bind_to hn1 (bind_to hn2 (bind_to hn3 (bind_to hn4 (bind_to hn5 hn6))))), bn6⟩

theorem cosPoly_0 {zz : Nat} (bzz : Bt 0 zz 4603732753809243969) : ∃ r, cosPoly zz = some r ∧ Bt 4604390187031047700 r 4607254026034092599 := by
  obtain ⟨n1, hn1, bn1⟩ := mul_bt 0 4599229154181873473 (Bt.const (k := 4602678819172646912) (by kernel_rfl)) bzz (by kernel_rfl)
  obtain ⟨n2, hn2, bn2⟩ := sub_bt 4604403651668033631 4607182418800017408 (Bt.const (k := 4607182418800017408) (by kernel_rfl)) bn1 (by kernel_rfl)
  obtain ⟨n3, hn3, bn3⟩ := mul_bt 0 4600529731129094292 bzz bzz (by kernel_rfl)
  obtain ⟨n4, hn4, bn4⟩ := mul_bt 13663589966784526479 0 (Bt.const (k := 13666448263388469915) (by kernel_rfl)) bzz (by kernel_rfl)
  obtain ⟨n5, hn5, bn5⟩ := add_bt 4477104919618443976 4477121864728985349 bn4 (Bt.const (k := 4477121864728985349) (by kernel_rfl)) (by kernel_rfl)
  obtain ⟨n6, hn6, bn6⟩ := mul_bt 0 4473799468305546610 bn5 bzz (by kernel_rfl)
  obtain ⟨n7, hn7, bn7⟩ := add_bt 13732177093698800582 13732152763081792712 bn6 (Bt.const (k := 13732177093698800582) (by kernel_rfl)) (by kernel_rfl)
  obtain ⟨n8, hn8, bn8⟩ := mul_bt 13728891671279540027 0 bn7 bzz (by kernel_rfl)
  obtain ⟨n9, hn9, bn9⟩ := add_bt 4537891177240946118 4537941361668146421 bn8 (Bt.const (k := 4537941361668146421) (by kernel_rfl)) (by kernel_rfl)
  obtain ⟨n10, hn10, bn10⟩ := mul_bt 0 4535137824407243178 bn9 bzz (by kernel_rfl)
  obtain ⟨n11, hn11, bn11⟩ := add_bt 13787419979223748497 13787349407360115306 bn10 (Bt.const (k := 13787419979223748497) (by kernel_rfl)) (by kernel_rfl)
  obtain ⟨n12, hn12, bn12⟩ := mul_bt 13784415308857314329 0 bn11 bzz (by kernel_rfl)
  obtain ⟨n13, hn13, bn13⟩ := add_bt 4586042119777533722 4586165620538955083 bn12 (Bt.const (k := 4586165620538955083) (by kernel_rfl)) (by kernel_rfl)
  obtain ⟨n14, hn14, bn14⟩ := mul_bt 0 4580229295549216177 bn3 bn13 (by kernel_rfl)
  obtain ⟨n15, hn15, bn15⟩ := add_bt 4604403651668033631 4607253857458467287 bn2 bn14 (by kernel_rfl)
  exact ⟨_, (bind_to hn1 (bind_to hn2 (bind_to hn3 (bind_to hn4 (bind_to hn5 (bind_to hn6 (bind_to hn7 (bind_to hn8 (bind_to hn9 (bind_to hn10 (bind_to hn11 (bind_to hn12 (bind_to hn13 (bind_to hn14 hn15)))))))))))))), (Bt.weak bn15 (by kernel_rfl))⟩

theorem sin_0 {z : Nat} (bz : Bt 13811080170290102812 z 13811078736645579240) : ∃ r, ((fm z z).bind fun zz => sinPoly z zz) = some r ∧ Bt 13828302655841107968 r 13811075270373708233 := by
  obtain ⟨n1, hn1, bn1⟩ := mul_bt 4568468064201478601 4568470466532128781 bz bz (by kernel_rfl)
  obtain ⟨n2, hn2, bn2⟩ := mul_bt 13772803103824959894 13772800084670381165 bz bn1 (by kernel_rfl)
  obtain ⟨n3, hn3, bn3⟩ := mul_bt 4422159683376974322 4422162963701276206 (Bt.const (k := 4460209587652500685) (by kernel_rfl)) bn1 (by kernel_rfl)
  obtain ⟨n4, hn4, bn4⟩ := add_bt 13716528257943974816 13716528257893921039 bn3 (Bt.const (k := 13716528389658582877) (by kernel_rfl)) (by kernel_rfl)
  obtain ⟨n5, hn5, bn5⟩ := mul_bt 13678244137492931793 13678242118181202399 bn4 bn1 (by kernel_rfl)
  obtain ⟨n6, hn6, bn6⟩ := add_bt 4523617050741447669 4523617050803072173 bn5 (Bt.const (k := 4523617212962785441) (by kernel_rfl)) (by kernel_rfl)
  obtain ⟨n7, hn7, bn7⟩ := mul_bt 4485648259477962629 4485649994917882714 bn6 bn1 (by kernel_rfl)
  obtain ⟨n8, hn8, bn8⟩ := add_bt 13774823918679492834 13774823918573569986 bn7 (Bt.const (k := 13774824197404483331) (by kernel_rfl)) (by kernel_rfl)
  obtain ⟨n9, hn9, bn9⟩ := mul_bt 13736614608679396004 13736612656309089120 bn8 bn1 (by kernel_rfl)
  obtain ⟨n10, hn10, bn10⟩ := add_bt 4575957147702860980 4575957147822024208 bn9 (Bt.const (k := 4575957461383575504) (by kernel_rfl)) (by kernel_rfl)
  obtain ⟨n11, hn11, bn11⟩ := mul_bt 4537363869278858686 4537366431764891915 bn10 bn1 (by kernel_rfl)
  obtain ⟨n12, hn12, bn12⟩ := add_bt 13818544033571794129 13818544033258990657 bn11 (Bt.const (k := 13818544856648471880) (by kernel_rfl)) (by kernel_rfl)
  obtain ⟨n13, hn13, bn13⟩ := mul_bt 4537681621931999903 4537685647287500658 bn2 bn12 (by kernel_rfl)
  obtain ⟨n14, hn14, bn14⟩ := add_bt 13811076722830729140 13811075287220699952 bz bn13 (by kernel_rfl)
  exact ⟨_, bind_to hn1 (bind_to hn2 (bind_to hn3 (bind_to hn4 (bind_to hn5 (bind_to hn6 (bind_to hn7 (bind_to hn8 (bind_to hn9 (bind_to hn10 (bind_to hn11 (bind_to hn12 (bind_to hn13 hn14)))))))))))), Bt.weak bn14 (by kernel_rfl)⟩

theorem sin_1 {z : Nat} (bz : Bt 13811084493745745088 z 13811080170290102812) : ∃ r, ((fm z z).bind fun zz => sinPoly z zz) = some r ∧ Bt 13828302655841107968 r 13811075270373708233 := by
  obtain ⟨n1, hn1, bn1⟩ := mul_bt 4568470466532128780 4568477714027291041 bz bz (by kernel_rfl)
  obtain ⟨n2, hn2, bn2⟩ := mul_bt 13772812215666026725 13772803103824959892 bz bn1 (by kernel_rfl)
  obtain ⟨n3, hn3, bn3⟩ := mul_bt 4422162963701276204 4422172859980336195 (Bt.const (k := 4460209587652500685) (by kernel_rfl)) bn1 (by kernel_rfl)
  obtain ⟨n4, hn4, bn4⟩ := add_bt 13716528257893921040 13716528257742915804 bn3 (Bt.const (k := 13716528389658582877) (by kernel_rfl)) (by kernel_rfl)
  obtain ⟨n5, hn5, bn5⟩ := mul_bt 13678250229332480402 13678244137351766263 bn4 bn1 (by kernel_rfl)
  obtain ⟨n6, hn6, bn6⟩ := add_bt 4523617050555539479 4523617050741451978 bn5 (Bt.const (k := 4523617212962785441) (by kernel_rfl)) (by kernel_rfl)
  obtain ⟨n7, hn7, bn7⟩ := mul_bt 4485649994744087550 4485655230323304871 bn6 bn1 (by kernel_rfl)
  obtain ⟨n8, hn8, bn8⟩ := add_bt 13774823918573580594 13774823918254026198 bn7 (Bt.const (k := 13774824197404483331) (by kernel_rfl)) (by kernel_rfl)
  obtain ⟨n9, hn9, bn9⟩ := mul_bt 13736620498408488197 13736614608380671654 bn8 bn1 (by kernel_rfl)
  obtain ⟨n10, hn10, bn10⟩ := add_bt 4575957147343380445 4575957147702879214 bn9 (Bt.const (k := 4575957461383575504) (by kernel_rfl)) (by kernel_rfl)
  obtain ⟨n11, hn11, bn11⟩ := mul_bt 4537366431092770839 4537374161754296494 bn10 bn1 (by kernel_rfl)
  obtain ⟨n12, hn12, bn12⟩ := add_bt 13818544033259072704 13818544032315388435 bn11 (Bt.const (k := 13818544856648471880) (by kernel_rfl)) (by kernel_rfl)
  obtain ⟨n13, hn13, bn13⟩ := mul_bt 4537685645809183687 4537697794375057222 bn2 bn12 (by kernel_rfl)
  obtain ⟨n14, hn14, bn14⟩ := add_bt 13811081044321587635 13811076714934028428 bz bn13 (by kernel_rfl)
  exact ⟨_, bind_to hn1 (bind_to hn2 (bind_to hn3 (bind_to hn4 (bind_to hn5 (bind_to hn6 (bind_to hn7 (bind_to hn8 (bind_to hn9 (bind_to hn10 (bind_to hn11 (bind_to hn12 (bind_to hn13 hn14)))))))))))), Bt.weak bn14 (by kernel_rfl)⟩

theorem sin_2 {z : Nat} (bz : Bt 13811170962858590601 z 13811084493745745088) : ∃ r, ((fm z z).bind fun zz => sinPoly z zz) = some r ∧ Bt 13828302655841107968 r 13811075270373708233 := by
  obtain ⟨n1, hn1, bn1⟩ := mul_bt 4568477714027291040 4568623535539193714 bz bz (by kernel_rfl)
  obtain ⟨n2, hn2, bn2⟩ := mul_bt 13772996652706529586 13772812215666026723 bz bn1 (by kernel_rfl)
  obtain ⟨n3, hn3, bn3⟩ := mul_bt 4422172859980336193 4422371975722041404 (Bt.const (k := 4460209587652500685) (by kernel_rfl)) bn1 (by kernel_rfl)
  obtain ⟨n4, hn4, bn4⟩ := add_bt 13716528257742915805 13716528254704650702 bn3 (Bt.const (k := 13716528389658582877) (by kernel_rfl)) (by kernel_rfl)
  obtain ⟨n5, hn5, bn5⟩ := mul_bt 13678372799347500258 13678250227090695844 bn4 bn1 (by kernel_rfl)
  obtain ⟨n6, hn6, bn6⟩ := add_bt 4523617046814999470 4523617050555607894 bn5 (Bt.const (k := 4523617212962785441) (by kernel_rfl)) (by kernel_rfl)
  obtain ⟨n7, hn7, bn7⟩ := mul_bt 4485655227563344232 4485760568796428324 bn6 bn1 (by kernel_rfl)
  obtain ⟨n8, hn8, bn8⟩ := add_bt 13774823918254194653 13774823911824676032 bn7 (Bt.const (k := 13774824197404483331) (by kernel_rfl)) (by kernel_rfl)
  obtain ⟨n9, hn9, bn9⟩ := mul_bt 13736739002575891139 13736620493664584914 bn8 bn1 (by kernel_rfl)
  obtain ⟨n10, hn10, bn10⟩ := add_bt 4575957140110460071 4575957147343669990 bn9 (Bt.const (k := 4575957461383575504) (by kernel_rfl)) (by kernel_rfl)
  obtain ⟨n11, hn11, bn11⟩ := mul_bt 4537374151080652569 4537529694027078599 bn10 bn1 (by kernel_rfl)
  obtain ⟨n12, hn12, bn12⟩ := add_bt 13818544032316691371 13818544013329515293 bn11 (Bt.const (k := 13818544856648471880) (by kernel_rfl)) (by kernel_rfl)
  obtain ⟨n13, hn13, bn13⟩ := mul_bt 4537697770885141490 4537943675559260660 bn2 bn12 (by kernel_rfl)
  obtain ⟨n14, hn14, bn14⟩ := add_bt 13811167507513985903 13811080918330498729 bz bn13 (by kernel_rfl)
  exact ⟨_, bind_to hn1 (bind_to hn2 (bind_to hn3 (bind_to hn4 (bind_to hn5 (bind_to hn6 (bind_to hn7 (bind_to hn8 (bind_to hn9 (bind_to hn10 (bind_to hn11 (bind_to hn12 (bind_to hn13 hn14)))))))))))), Bt.weak bn14 (by kernel_rfl)⟩

theorem sin_3 {z : Nat} (bz : Bt 13813801065040974971 z 13811170962858590601) : ∃ r, ((fm z z).bind fun zz => sinPoly z zz) = some r ∧ Bt 13828302655841107968 r 13811075270373708233 := by
  obtain ⟨n1, hn1, bn1⟩ := mul_bt 4568623535539193713 4574028719783166765 bz bz (by kernel_rfl)
  obtain ⟨n2, hn2, bn2⟩ := mul_bt 13781233626609216910 13772996652706529584 bz bn1 (by kernel_rfl)
  obtain ⟨n3, hn3, bn3⟩ := mul_bt 4422371975722041401 4427572550503006324 (Bt.const (k := 4460209587652500685) (by kernel_rfl)) bn1 (by kernel_rfl)
  obtain ⟨n4, hn4, bn4⟩ := add_bt 13716528254704650703 13716528082180773722 bn3 (Bt.const (k := 13716528389658582877) (by kernel_rfl)) (by kernel_rfl)
  obtain ⟨n5, hn5, bn5⟩ := mul_bt 13683634222503871185 13678372673100061635 bn4 bn1 (by kernel_rfl)
  obtain ⟨n6, hn6, bn6⟩ := add_bt 4523616834413335997 4523617046818852237 bn5 (Bt.const (k := 4523617212962785441) (by kernel_rfl)) (by kernel_rfl)
  obtain ⟨n7, hn7, bn7⟩ := mul_bt 4485760413367656032 4490915452428881715 bn6 bn1 (by kernel_rfl)
  obtain ⟨n8, hn8, bn8⟩ := add_bt 13774823911834162652 13774823546742426706 bn7 (Bt.const (k := 13774824197404483331) (by kernel_rfl)) (by kernel_rfl)
  obtain ⟨n9, hn9, bn9⟩ := mul_bt 13741975285388538987 13736738735420292760 bn8 bn1 (by kernel_rfl)
  obtain ⟨n10, hn10, bn10⟩ := add_bt 4575956729398479248 4575957140126765956 bn9 (Bt.const (k := 4575957461383575504) (by kernel_rfl)) (by kernel_rfl)
  obtain ⟨n11, hn11, bn11⟩ := mul_bt 4537529092934961711 4542994909219704859 bn10 bn1 (by kernel_rfl)
  obtain ⟨n12, hn12, bn12⟩ := add_bt 13818544013402890796 13818542935241133594 bn11 (Bt.const (k := 13818544856648471880) (by kernel_rfl)) (by kernel_rfl)
  obtain ⟨n13, hn13, bn13⟩ := mul_bt 4537942337565489115 4545924028826207718 bn2 bn12 (by kernel_rfl)
  obtain ⟨n14, hn14, bn14⟩ := add_bt 13813799277660010428 13811158666756175078 bz bn13 (by kernel_rfl)
  exact ⟨_, bind_to hn1 (bind_to hn2 (bind_to hn3 (bind_to hn4 (bind_to hn5 (bind_to hn6 (bind_to hn7 (bind_to hn8 (bind_to hn9 (bind_to hn10 (bind_to hn11 (bind_to hn12 (bind_to hn13 hn14)))))))))))), Bt.weak bn14 (by kernel_rfl)⟩

theorem sin_4 {z : Nat} (bz : Bt 13824249416176474522 z 13813801065040974971) : ∃ r, ((fm z z).bind fun zz => sinPoly z zz) = some r ∧ Bt 13828302655841107968 r 13811075270373708233 := by
  obtain ⟨n1, hn1, bn1⟩ := mul_bt 4574028719783166764 4594932627813569660 bz bz (by kernel_rfl)
  obtain ⟨n2, hn2, bn2⟩ := mul_bt 13812648143536368126 13781233626609216908 bz bn1 (by kernel_rfl)
  obtain ⟨n3, hn3, bn3⟩ := mul_bt 4427572550503006323 4448420664501651639 (Bt.const (k := 4460209587652500685) (by kernel_rfl)) bn1 (by kernel_rfl)
  obtain ⟨n4, hn4, bn4⟩ := add_bt 13716528082180773723 13716520702713354026 bn3 (Bt.const (k := 13716528389658582877) (by kernel_rfl)) (by kernel_rfl)
  obtain ⟨n5, hn5, bn5⟩ := mul_bt 13704795388998638529 13683628035912600945 bn4 bn1 (by kernel_rfl)
  obtain ⟨n6, hn6, bn6⟩ := add_bt 4523607749442204211 4523616834790935563 bn5 (Bt.const (k := 4523617212962785441) (by kernel_rfl)) (by kernel_rfl)
  obtain ⟨n7, hn7, bn7⟩ := mul_bt 4490907836017931651 4511927830299555938 bn6 bn1 (by kernel_rfl)
  obtain ⟨n8, hn8, bn8⟩ := add_bt 13774823547672164372 13774807931383137510 bn7 (Bt.const (k := 13774824197404483331) (by kernel_rfl)) (by kernel_rfl)
  obtain ⟨n9, hn9, bn9⟩ := mul_bt 13763181333169222465 13741962194203059189 bn8 bn1 (by kernel_rfl)
  obtain ⟨n10, hn10, bn10⟩ := add_bt 4575939162666574108 4575956730996524351 bn9 (Bt.const (k := 4575957461383575504) (by kernel_rfl)) (by kernel_rfl)
  obtain ⟨n11, hn11, bn11⟩ := mul_bt 4542965454948926533 4563790802694744720 bn10 bn1 (by kernel_rfl)
  obtain ⟨n12, hn12, bn12⟩ := add_bt 13818542942432117672 13818496825556317170 bn11 (Bt.const (k := 13818544856648471880) (by kernel_rfl)) (by kernel_rfl)
  obtain ⟨n13, hn13, bn13⟩ := mul_bt 4545874548782798928 4577300576314743238 bn2 bn12 (by kernel_rfl)
  obtain ⟨n14, hn14, bn14⟩ := add_bt 13824247891243761305 13813032695724263746 bz bn13 (by kernel_rfl)
  exact ⟨_, bind_to hn1 (bind_to hn2 (bind_to hn3 (bind_to hn4 (bind_to hn5 (bind_to hn6 (bind_to hn7 (bind_to hn8 (bind_to hn9 (bind_to hn10 (bind_to hn11 (bind_to hn12 (bind_to hn13 hn14)))))))))))), Bt.weak bn14 (by kernel_rfl)⟩

theorem sin_5 {z : Nat} (bz : Bt 13827401935915633869 z 13824249416176474522) : ∃ r, ((fm z z).bind fun zz => sinPoly z zz) = some r ∧ Bt 13828302655841107968 r 13811075270373708233 := by
  obtain ⟨n1, hn1, bn1⟩ := mul_bt 4594932627813569659 4601282703288162059 bz bz (by kernel_rfl)
  obtain ⟨n2, hn2, bn2⟩ := mul_bt 13821990860963348219 13812648143536368124 bz bn1 (by kernel_rfl)
  obtain ⟨n3, hn3, bn3⟩ := mul_bt 4448420664501651636 4454752806816752768 (Bt.const (k := 4460209587652500685) (by kernel_rfl)) bn1 (by kernel_rfl)
  obtain ⟨n4, hn4, bn4⟩ := add_bt 13716520702713354027 13716508091318837944 bn3 (Bt.const (k := 13716528389658582877) (by kernel_rfl)) (by kernel_rfl)
  obtain ⟨n5, hn5, bn5⟩ := mul_bt 13710844770351361081 13704782594846999628 bn4 bn1 (by kernel_rfl)
  obtain ⟨n6, hn6, bn6⟩ := add_bt 4523592247711758324 4523607774430781631 bn5 (Bt.const (k := 4523617212962785441) (by kernel_rfl)) (by kernel_rfl)
  obtain ⟨n7, hn7, bn7⟩ := mul_bt 4511896358838209070 4518097085835794144 bn6 bn1 (by kernel_rfl)
  obtain ⟨n8, hn8, bn8⟩ := add_bt 13774807992850835454 13774781304754400853 bn7 (Bt.const (k := 13774824197404483331) (by kernel_rfl)) (by kernel_rfl)
  obtain ⟨n9, hn9, bn9⟩ := mul_bt 13769172283766684436 13763154297701853811 bn8 bn1 (by kernel_rfl)
  obtain ⟨n10, hn10, bn10⟩ := add_bt 4575909244020118873 4575939268273868518 bn9 (Bt.const (k := 4575957461383575504) (by kernel_rfl)) (by kernel_rfl)
  obtain ⟨n11, hn11, bn11⟩ := mul_bt 4563730019364945706 4570234165099169931 bn10 bn1 (by kernel_rfl)
  obtain ⟨n12, hn12, bn12⟩ := add_bt 13818497300426081226 13818418485670770981 bn11 (Bt.const (k := 13818544856648471880) (by kernel_rfl)) (by kernel_rfl)
  obtain ⟨n13, hn13, bn13⟩ := mul_bt 4577173132591124223 4586704852779720272 bn2 bn12 (by kernel_rfl)
  obtain ⟨n14, hn14, bn14⟩ := add_bt 13827307881059226514 13823431412208483792 bz bn13 (by kernel_rfl)
  exact ⟨_, bind_to hn1 (bind_to hn2 (bind_to hn3 (bind_to hn4 (bind_to hn5 (bind_to hn6 (bind_to hn7 (bind_to hn8 (bind_to hn9 (bind_to hn10 (bind_to hn11 (bind_to hn12 (bind_to hn13 hn14)))))))))))), Bt.weak bn14 (by kernel_rfl)⟩

theorem sin_6 {z : Nat} (bz : Bt 13828622378329361004 z 13827401935915633869) : ∃ r, ((fm z z).bind fun zz => sinPoly z zz) = some r ∧ Bt 13828302655841107968 r 13811075270373708233 := by
  obtain ⟨n1, hn1, bn1⟩ := mul_bt 4601282703288162058 4603732701832374486 bz bz (by kernel_rfl)
  obtain ⟨n2, hn2, bn2⟩ := mul_bt 13825774420618168199 13821990860963348217 bz bn1 (by kernel_rfl)
  obtain ⟨n3, hn3, bn3⟩ := mul_bt 4454752806816752766 4457145039264716653 (Bt.const (k := 4460209587652500685) (by kernel_rfl)) bn1 (by kernel_rfl)
  obtain ⟨n4, hn4, bn4⟩ := add_bt 13716508091318837945 13716498746660838085 bn3 (Bt.const (k := 13716528389658582877) (by kernel_rfl)) (by kernel_rfl)
  obtain ⟨n5, hn5, bn5⟩ := mul_bt 13713616158936101206 13710826217486985108 bn4 bn1 (by kernel_rfl)
  obtain ⟨n6, hn6, bn6⟩ := add_bt 4523580815359501758 4523592320183884794 bn5 (Bt.const (k := 4523617212962785441) (by kernel_rfl)) (by kernel_rfl)
  obtain ⟨n7, hn7, bn7⟩ := mul_bt 4518074305420562649 4520605541806531817 bn6 bn1 (by kernel_rfl)
  obtain ⟨n8, hn8, bn8⟩ := add_bt 13774781482726394850 13774761707442129465 bn7 (Bt.const (k := 13774824197404483331) (by kernel_rfl)) (by kernel_rfl)
  obtain ⟨n9, hn9, bn9⟩ := mul_bt 13771980865010132238 13769133172596327873 bn8 bn1 (by kernel_rfl)
  obtain ⟨n10, hn10, bn10⟩ := add_bt 4575887301979154437 4575909549576137285 bn9 (Bt.const (k := 4575957461383575504) (by kernel_rfl)) (by kernel_rfl)
  obtain ⟨n11, hn11, bn11⟩ := mul_bt 4570146342061103132 4572518879660301052 bn10 bn1 (by kernel_rfl)
  obtain ⟨n12, hn12, bn12⟩ := add_bt 13818419857905740776 13818361454851390064 bn11 (Bt.const (k := 13818544856648471880) (by kernel_rfl)) (by kernel_rfl)
  obtain ⟨n13, hn13, bn13⟩ := mul_bt 4586555626415922027 4590363767424124121 bn2 bn12 (by kernel_rfl)
  obtain ⟨n14, hn14, bn14⟩ := add_bt 13828222702993103030 13826689517570513969 bz bn13 (by kernel_rfl)
  exact ⟨_, bind_to hn1 (bind_to hn2 (bind_to hn3 (bind_to hn4 (bind_to hn5 (bind_to hn6 (bind_to hn7 (bind_to hn8 (bind_to hn9 (bind_to hn10 (bind_to hn11 (bind_to hn12 (bind_to hn13 hn14)))))))))))), Bt.weak bn14 (by kernel_rfl)⟩

theorem sin_all {z : Nat} (bz : Bt 13828622378329361004 z 13811078736645579240) : ∃ r, ((fm z z).bind fun zz => sinPoly z zz) = some r ∧ Bt 13828302655841107968 r 13811075270373708233 := by
  rcases Int.le_total (val 13811080170290102812) (val z) with h0 | h0
  · exact sin_0 ⟨bz.fine, h0, bz.hi⟩
  rcases Int.le_total (val 13811084493745745088) (val z) with h1 | h1
  · exact sin_1 ⟨bz.fine, h1, h0⟩
  rcases Int.le_total (val 13811170962858590601) (val z) with h2 | h2
  · exact sin_2 ⟨bz.fine, h2, h1⟩
  rcases Int.le_total (val 13813801065040974971) (val z) with h3 | h3
  · exact sin_3 ⟨bz.fine, h3, h2⟩
  rcases Int.le_total (val 13824249416176474522) (val z) with h4 | h4
  · exact sin_4 ⟨bz.fine, h4, h3⟩
  rcases Int.le_total (val 13827401935915633869) (val z) with h5 | h5
  · exact sin_5 ⟨bz.fine, h5, h4⟩
  exact sin_6 ⟨bz.fine, bz.lo, h5⟩

theorem satan_lo {x : Nat} (bx : Bt 4591870180066957722 x 4607632778762754458) : ∃ r, satanF x = some r ∧ Bt 4591149604126578442 r 4607182418800017408 := by
  unfold satanF
  have hf : Fine 4604119971053405471 := fine_of (by kernel_rfl)
  have hg : Fine 4612618744449965542 := fine_of (by kernel_rfl)
  rw [fleB_fine bx.fine hf, fgtB_fine bx.fine hg]
  by_cases h : val x ≤ val 4604119971053405471
  · rw [if_pos (decide_eq_true h)]
    rcases Int.le_total (val x) (val 4596373779694328218) with h1 | h1
    · obtain ⟨r, hr, br⟩ := xatan_a (x := x) ⟨bx.fine, bx.lo, h1⟩
      exact ⟨r, hr, br.weak (by kernel_rfl)⟩
    rcases Int.le_total (val x) (val 4599976659396224614) with h2 | h2
    · obtain ⟨r, hr, br⟩ := xatan_b (x := x) ⟨bx.fine, h1, h2⟩
      exact ⟨r, hr, br.weak (by kernel_rfl)⟩
    · obtain ⟨r, hr, br⟩ := xatan_c (x := x) ⟨bx.fine, h2, h⟩
      exact ⟨r, hr, br.weak (by kernel_rfl)⟩
  · rw [if_neg (by simpa using h), if_neg (by
      have h1 := bx.hi
      have h2 : val 4607632778762754458 ≤ val 4612618744449965542 := of_decide_eq_true (by kernel_rfl)
      simp only [decide_eq_true_eq]; omega)]
    have bx' : Bt 4604119971053405471 x 4607632778762754458 := ⟨bx.fine, by omega, bx.hi⟩
    obtain ⟨n1, hn1, bn1⟩ := sub_bt 13823168552265905602 4591870180066957728 bx' (Bt.const (k := 4607182418800017408) (by kernel_rfl)) (by kernel_rfl)
    obtain ⟨n2, hn2, bn2⟩ := add_bt 4610154794554081935 4611911198408756429 bx' (Bt.const (k := 4607182418800017408) (by kernel_rfl)) (by kernel_rfl)
    obtain ⟨n3, hn3, bn3⟩ := div_bt 13819919449305821924 4588842458871689373 bn1 bn2 (by kernel_rfl)
    obtain ⟨n4, hn4, bn4⟩ := xatan_e bn3
    obtain ⟨n5, hn5, bn5⟩ := add_bt 4602949035150289142 4606551914852185539 (Bt.const (k := 4605249457297304856) (by kernel_rfl)) bn4 (by kernel_rfl)
    obtain ⟨n6, hn6, bn6⟩ := add_bt 4602858963157741732 4606641986844732948 bn5 (Bt.const (k := 4359948597267291143) (by kernel_rfl)) (by kernel_rfl)
    exact ⟨n6, bind_to hn1 (bind_to hn2 (bind_to hn3 (bind_to hn4 (bind_to hn5 hn6)))), bn6.weak (by kernel_rfl)⟩

theorem satan_any {x : Nat} (bx : Bt 0 x 4607632778762754458) : ∃ r, satanF x = some r ∧ Bt 13821547256400052224 r 4607182418800017408 := by
  rcases Int.le_total (val 4591870180066957722) (val x) with h1 | h1
  · obtain ⟨r, hr, br⟩ := satan_lo (x := x) ⟨bx.fine, h1, bx.hi⟩
    exact ⟨r, hr, br.weak (by kernel_rfl)⟩
  · have h6 : val 4591870180066957722 ≤ val 4604119971053405471 := of_decide_eq_true (by kernel_rfl)
    obtain ⟨r, hr, br⟩ := xatan_d (x := x) ⟨bx.fine, bx.lo, by omega⟩
    refine ⟨r, ?_, br.weak (by kernel_rfl)⟩
    unfold satanF
    rw [fleB_fine bx.fine (fine_of (by kernel_rfl)), if_pos (decide_eq_true (by omega))]
    exact hr

theorem asinC_lo {y : Nat} (b : Bt 0 y 4604480259023595110) : ∃ r, asinC y = some r ∧ Bt 13821547256400052224 r 4607182418800017408 := by
  obtain ⟨n1, hn1, bn1⟩ := mul_bt 0 4602498675187552092 b b (by kernel_rfl)
  obtain ⟨n2, hn2, bn2⟩ := sub_bt 4602768891165194322 4607182418800017408 (Bt.const (k := 4607182418800017408) (by kernel_rfl)) bn1 (by kernel_rfl)
  obtain ⟨n3, hn3, bn3⟩ := sqrt_bt 4604607646427212145 4607182418800017408 bn2 (by kernel_rfl)
  obtain ⟨n4, hn4, bn4⟩ := div_bt 0 4607004040755776437 b bn3 (by kernel_rfl)
  obtain ⟨d, hd, bd⟩ := satan_any (bn4.weak (by kernel_rfl))
  have h1 : val y ≤ val 4607182418800017408 := Int.le_trans b.hi (of_decide_eq_true (by kernel_rfl))
  refine ⟨d, ?_, bd.weak (by kernel_rfl)⟩
  unfold asinC
  rw [fgtB_fine b.fine (fine_of (by kernel_rfl)), if_neg (by simp only [decide_eq_true_eq]; omega)]
  refine bind_to hn1 (bind_to hn2 (bind_to hn3 ?_))
  rw [fgtB_fine b.fine (fine_of (by kernel_rfl)), if_neg (by have := b.hi; simp only [decide_eq_true_eq]; omega)]
  exact bind_to hn4 hd

theorem asinC_hi {y : Nat} (b : Bt 4604480259023595110 y 4607182418800017408) (hy : val 4604480259023595110 < val y) : ∃ r, asinC y = some r ∧ Bt 4602678819172646912 r 4610920406490734920 := by
  obtain ⟨n1, hn1, bn1⟩ := mul_bt 4602498675187552091 4607182418800017408 b b (by kernel_rfl)
  obtain ⟨n2, hn2, bn2⟩ := sub_bt 0 4602768891165194323 (Bt.const (k := 4607182418800017408) (by kernel_rfl)) bn1 (by kernel_rfl)
  obtain ⟨n3, hn3, bn3⟩ := sqrt_bt 0 4604607646427212146 bn2 (by kernel_rfl)
  obtain ⟨n4, hn4, bn4⟩ := div_bt 0 4607273409802601006 bn3 b (by kernel_rfl)
  obtain ⟨d, hd, bd⟩ := satan_any (bn4.weak (by kernel_rfl))
  have h1 : val y ≤ val 4607182418800017408 := Int.le_trans b.hi (of_decide_eq_true (by kernel_rfl))
  obtain ⟨e, he, be⟩ := sub_bt 4603316495794592304 4610878956831517976 (Bt.const (k := 4609753056924675352) (by kernel_rfl)) bd (by kernel_rfl)
  refine ⟨e, ?_, be.weak (by kernel_rfl)⟩
  unfold asinC
  rw [fgtB_fine b.fine (fine_of (by kernel_rfl)), if_neg (by simp only [decide_eq_true_eq]; omega)]
  refine bind_to hn1 (bind_to hn2 (bind_to hn3 ?_))
  rw [fgtB_fine b.fine (fine_of (by kernel_rfl)), if_pos (decide_eq_true hy)]
  exact bind_to hn4 (bind_to hd he)

theorem asinC_hx {y : Nat} (b : Bt 4604480259023595110 y 4607135581363892755) (hy : val 4604480259023595110 < val y) : ∃ r, asinC y = some r ∧ Bt 4602678819172646912 r 4609348650220782617 := by
  obtain ⟨n1, hn1, bn1⟩ := mul_bt 4602498675187552091 4607088987482435951 b b (by kernel_rfl)
  obtain ⟨n2, hn2, bn2⟩ := sub_bt 4577133226106266688 4602768891165194323 (Bt.const (k := 4607182418800017408) (by kernel_rfl)) bn1 (by kernel_rfl)
  obtain ⟨n3, hn3, bn3⟩ := sqrt_bt 4592003323007637620 4604607646427212146 bn2 (by kernel_rfl)
  obtain ⟨n4, hn4, bn4⟩ := div_bt 4592041684781050625 4607273409802601006 bn3 b (by kernel_rfl)
  obtain ⟨d, hd, bd⟩ := satan_lo (bn4.weak (by kernel_rfl))
  have h1 : val y ≤ val 4607182418800017408 := Int.le_trans b.hi (of_decide_eq_true (by kernel_rfl))
  obtain ⟨e, he, be⟩ := sub_bt 4603316495794592304 4609347732958212008 (Bt.const (k := 4609753056924675352) (by kernel_rfl)) bd (by kernel_rfl)
  refine ⟨e, ?_, be.weak (by kernel_rfl)⟩
  unfold asinC
  rw [fgtB_fine b.fine (fine_of (by kernel_rfl)), if_neg (by simp only [decide_eq_true_eq]; omega)]
  refine bind_to hn1 (bind_to hn2 (bind_to hn3 ?_))
  rw [fgtB_fine b.fine (fine_of (by kernel_rfl)), if_pos (decide_eq_true hy)]
  exact bind_to hn4 (bind_to hd he)

theorem asinC_any {y : Nat} (b : Bt 0 y 4607182418800017408) : ∃ r, asinC y = some r ∧ Bt 13821547256400052224 r 4610920406490734920 := by
  rcases int_lt_or_ge (val 4604480259023595110) (val y) with h | h
  · obtain ⟨r, hr, br⟩ := asinC_hi (y := y) ⟨b.fine, Int.le_of_lt h, b.hi⟩ h
    exact ⟨r, hr, br.weak (by kernel_rfl)⟩
  · obtain ⟨r, hr, br⟩ := asinC_lo (y := y) ⟨b.fine, b.lo, h⟩
    exact ⟨r, hr, br.weak (by kernel_rfl)⟩
theorem asinC_x {y : Nat} (b : Bt 0 y 4607135581363892755) : ∃ r, asinC y = some r ∧ Bt 13821547256400052224 r 4609348650220782617 := by
  rcases int_lt_or_ge (val 4604480259023595110) (val y) with h | h
  · obtain ⟨r, hr, br⟩ := asinC_hx (y := y) ⟨b.fine, Int.le_of_lt h, b.hi⟩ h
    exact ⟨r, hr, br.weak (by kernel_rfl)⟩
  · obtain ⟨r, hr, br⟩ := asinC_lo (y := y) ⟨b.fine, b.lo, h⟩
    exact ⟨r, hr, br.weak (by kernel_rfl)⟩

theorem asin_bt {x : Nat} (b : Bt 13830554455654793216 x 4607135581363892755) : ∃ r, asinF x = some r ∧ Bt 13834292443345510728 r 4609348650220782617 := by
  unfold asinF
  have hz : Fine 0 := fine_of (by kernel_rfl)
  have v0 : val 0 = 0 := by decide
  rw [feqB_fine b.fine hz, fltB_fine b.fine hz, v0]
  by_cases h0 : val x = 0
  · rw [if_pos (decide_eq_true h0)]
    refine ⟨x, rfl, b.fine, ?_, ?_⟩
    · rw [h0]; exact of_decide_eq_true (by kernel_rfl)
    · rw [h0]; exact of_decide_eq_true (by kernel_rfl)
  · rw [if_neg (by simpa using h0)]
    by_cases hn : val x < 0
    · rw [if_pos (decide_eq_true hn)]
      have bn := fneg_bt b
      have bn' : Bt 0 (fneg x) 4607182418800017408 := by
        refine ⟨bn.fine, ?_, ?_⟩
        · rw [v0, fneg_eq b.fine.1, negW_val]; omega
        · exact Int.le_trans bn.hi (of_decide_eq_true (by kernel_rfl))
      obtain ⟨r, hr, br⟩ := asinC_any bn'
      exact ⟨fneg r, bind_to hr rfl, (fneg_bt br).weak (by kernel_rfl)⟩
    · rw [if_neg (by simpa using hn)]
      obtain ⟨r, hr, br⟩ := asinC_x (y := x) ⟨b.fine, by rw [v0]; omega, b.hi⟩
      exact ⟨r, hr, br.weak (by kernel_rfl)⟩

theorem acos_bt {x : Nat} (b : Bt 13830554455654793216 x 4607135581363892755) : ∃ r, acosF x = some r ∧ Bt 4591127986848367064 r 4614861056164684104 := by
  obtain ⟨a, ha, ba⟩ := asin_bt b
  obtain ⟨r, hr, br⟩ := sub_bt 4591127986848367064 4614861056164684104 (Bt.const (k := 4609753056924675352) (by kernel_rfl)) ba (by kernel_rfl)
  exact ⟨r, bind_to ha hr, br⟩

theorem cos0_bt {x : Nat} (b : Bt 0 x 4605250374559875465) : ∃ r, cos0F x = some r ∧ Bt 4587703233518932425 r 4607254026034092599 := by
  obtain ⟨z, hz, bz⟩ := octant_0 b
  obtain ⟨zz, hzz, bzz⟩ := mul_bt 0 4603732753809243969 bz bz (by kernel_rfl)
  obtain ⟨r, hr, br⟩ := cosPoly_0 bzz
  exact ⟨r, bind_to hz (bind_to hzz hr), br.weak (by kernel_rfl)⟩

theorem cos2_bt {x : Nat} (b : Bt 4605248573120024517 x 4609517248213581321) : ∃ r, cos2F x = some r ∧ Bt 4587703233518932425 r 4607254026034092599 := by
  obtain ⟨z, hz, bz⟩ := octant_2 b
  obtain ⟨r, hr, br⟩ := sin_all bz
  obtain ⟨zz, hzz, hr'⟩ := Option.bind_eq_some_iff.1 hr
  exact ⟨fneg r, bind_to hz (bind_to hzz (bind_to hr' rfl)), (fneg_bt br).weak (by kernel_rfl)⟩

theorem scale_pos : (0 : Int) < scale := of_decide_eq_true (by kernel_rfl)

theorem cosA_bt {x : Nat} (b : Bt 0 x 4609517248213581321) : ∃ r, cosA x = some r ∧ Bt 4587703233518932425 r 4607254026034092599 := by
  obtain ⟨p, hp, bp⟩ := mul_bt 0 4611415802449745674 b (Bt.const (k := 4608412980311869571) (by kernel_rfl)) (by kernel_rfl)
  have v0 : val 0 = 0 := by decide
  have hp0 : 0 ≤ val p := by have := bp.lo; omega
  have hv1 : val 4607182418800017408 = 1 * scale := of_decide_eq_true (by kernel_rfl)
  have hp2 : val p < 2 * scale := Int.lt_of_le_of_lt bp.hi (of_decide_eq_true (by kernel_rfl))
  have hsp := scale_pos
  have hj : (FloatKind.f64.decode p).toInt .zero = some (val p / scale) := toInt_fine bp.fine hp0
  have hq0 : 0 ≤ val p / scale := Int.ediv_nonneg hp0 (Int.le_of_lt hsp)
  have hq2 : val p / scale < 2 := Int.ediv_lt_of_lt_mul hsp hp2
  have hjv : floatToIntVal .f64 p .u64 = some (val p / scale) := by
    unfold floatToIntVal
    rw [hj]
    have e1 : IntKind.u64.min = 0 := by decide
    have e2 : IntKind.u64.max = 18446744073709551615 := by decide
    simp only [e1, e2]
    rw [if_pos ⟨hq0, by omega⟩]
  by_cases h : val p / scale = 0
  · have hlt : val p < 1 * scale := by
      rcases int_lt_or_ge (val p) (1 * scale) with h1 | h1
      · exact h1
      · have := (Int.le_ediv_iff_mul_le hsp).2 h1; omega
    have hx : val x ≤ val 4605250374559875465 := by
      rcases Int.le_total (val x) (val 4605250374559875465) with h1 | h1
      · exact h1
      · exfalso
        have bx' : Bt 4605250374559875465 x 4609517248213581321 := ⟨b.fine, h1, b.hi⟩
        obtain ⟨p', hp', bp'⟩ := mul_bt 4607182418800017408 4611415802449745674 bx' (Bt.const (k := 4608412980311869571) (by kernel_rfl)) (by kernel_rfl)
        have hpp : p' = p := Option.some.inj (hp'.symm.trans hp)
        have h3 := bp'.lo
        rw [hpp] at h3
        omega
    obtain ⟨r, hr, br⟩ := cos0_bt (x := x) ⟨b.fine, b.lo, hx⟩
    refine ⟨r, ?_, br⟩
    unfold cosA
    refine bind_to hp (bind_to hjv ?_)
    rw [if_pos h]; exact hr
  · have h1' : val p / scale = 1 := by omega
    have hge : 1 * scale ≤ val p := (Int.le_ediv_iff_mul_le hsp).1 (by omega)
    have hx : val 4605248573120024517 ≤ val x := by
      rcases Int.le_total (val x) (val 4605248573120024517) with h1 | h1
      · exfalso
        have bx' : Bt 0 x 4605248573120024517 := ⟨b.fine, b.lo, h1⟩
        obtain ⟨p', hp', bp'⟩ := mul_bt 0 4607181518080091934 bx' (Bt.const (k := 4608412980311869571) (by kernel_rfl)) (by kernel_rfl)
        have : p' = p := Option.some.inj (hp'.symm.trans hp)
        have h3 := bp'.hi
        have h4 : val 4607181518080091934 < 1 * scale := of_decide_eq_true (by kernel_rfl)
        rw [this] at h3
        omega
      · exact h1
    obtain ⟨r, hr, br⟩ := cos2_bt (x := x) ⟨b.fine, hx, b.hi⟩
    refine ⟨r, ?_, br⟩
    unfold cosA
    refine bind_to hp (bind_to hjv ?_)
    rw [if_neg h, if_pos h1']; exact hr

theorem fineB_of {w : Nat} (h : Fine w) : fineB w = true := by
  unfold fineB; simp only [Bool.and_eq_true, decide_eq_true_eq]; exact h

theorem cos_bt {x : Nat} (b : Bt 0 x 4609517248213581321) : ∃ r, cosF x = some r ∧ Bt 4587703233518932425 r 4607254026034092599 := by
  have hv : val (absW x) = val x := by
    have := b.lo
    have v0 : val 0 = 0 := by decide
    rw [absW_abs, if_neg (by omega)]
  obtain ⟨r, hr, br⟩ := cosA_bt (x := absW x) ⟨absW_fine b.fine, by rw [hv]; exact b.lo, by rw [hv]; exact b.hi⟩
  refine ⟨r, ?_, br⟩
  unfold cosF
  have h29 : val (absW x) < val 4737786807993761792 := by rw [hv]; exact Int.lt_of_le_of_lt b.hi (of_decide_eq_true (by kernel_rfl))
  rw [fineB_of b.fine, decide_eq_true h29]
  exact hr

def wholeOk (n : Nat) : Bool := (List.range n).all fun M => [true, false].all fun s => fineB (double.nearest s M 0) && decide (val (double.nearest s M 0) = sgn s M * scale)
theorem whole_exact {s : Bool} {M : Nat} (h : M < 200) : Fine (double.nearest s M 0) ∧ val (double.nearest s M 0) = sgn s M * scale := by
  have hall : wholeOk 200 = true := by kernel_rfl
  unfold wholeOk at hall
  rw [List.all_eq_true] at hall
  have h1 := hall M (List.mem_range.2 h)
  rw [List.all_eq_true] at h1
  have h2 := h1 s (by cases s <;> simp)
  simp only [Bool.and_eq_true, decide_eq_true_eq] at h2
  exact ⟨fine_of h2.1, h2.2⟩

theorem floor_between {x : Nat} (hx : Fine x) {lo hi : Int} (h1 : lo * scale ≤ val x) (h2 : val x < (hi + 1) * scale) : ∃ s M, floorW x = double.nearest s M 0 ∧ lo ≤ sgn s M ∧ sgn s M ≤ hi := by
  obtain ⟨s, M, e, hv⟩ := floor_fine hx
  refine ⟨s, M, e, ?_, ?_⟩
  · rw [hv]; exact (Int.le_ediv_iff_mul_le scale_pos).2 h1
  · rw [hv]; have := Int.ediv_lt_of_lt_mul scale_pos h2; omega

theorem sgn_abs {s : Bool} {M : Nat} {lo hi : Int} {B : Nat} (h1 : lo ≤ sgn s M) (h2 : sgn s M ≤ hi) (h3 : -(B : Int) < lo) (h4 : hi < B) : M < B := by
  cases s <;> simp only [sgn, Bool.false_eq_true, if_false, if_true] at h1 h2 <;> omega

/-- 'NL' is defined, a number from 1 to 70, wherever the latitude is not within a hair below 87. -/
theorem nl_bt {x : Nat} (hx : Fine x) (h : val (absW x) ≤ val 4635822496976639214 ∨ val 4635822497680326656 ≤ val (absW x)) : ∃ n, nlF x = some n ∧ 1 ≤ n ∧ n ≤ 70 := by
  have ha := absW_fine hx
  have v0 : val 0 = 0 := by decide
  unfold nlF
  simp only []
  rw [feqB_fine ha (fine_of (by kernel_rfl)), feqB_fine ha (fine_of (by kernel_rfl)), fgtB_fine ha (fine_of (by kernel_rfl)), v0]
  by_cases h0 : val (absW x) = 0
  · rw [if_pos (decide_eq_true h0)]; exact ⟨59, rfl, by decide, by decide⟩
  rw [if_neg (by simpa using h0)]
  by_cases h87 : val (absW x) = val 4635822497680326656
  · rw [if_pos (decide_eq_true h87)]; exact ⟨2, rfl, by decide, by decide⟩
  rw [if_neg (by simpa using h87)]
  by_cases hg : val 4635822497680326656 < val (absW x)
  · rw [if_pos (decide_eq_true hg)]; exact ⟨1, rfl, by decide, by decide⟩
  rw [if_neg (by simpa using hg)]
  have hle : val (absW x) ≤ val 4635822496976639214 := by
    rcases h with h | h
    · exact h
    · exfalso; omega
  have hpos : val 0 ≤ val (absW x) := by rw [v0, absW_val]; omega
  have ba : Bt 0 (absW x) 4635822496976639214 := ⟨ha, hpos, hle⟩
  generalize absW x = a at *
  obtain ⟨n1, hn1, bn1⟩ := mul_bt 0 4643515886611017886 (Bt.const (k := 4614256656552045848) (by kernel_rfl)) ba (by kernel_rfl)
  obtain ⟨n2, hn2, bn2⟩ := div_bt 0 4609517248213581321 bn1 (Bt.const (k := 4640537203540230144) (by kernel_rfl)) (by kernel_rfl)
  obtain ⟨c, hc, bc⟩ := cos_bt (bn2.weak (by kernel_rfl))
  obtain ⟨k, hk, bk⟩ : ∃ k, cosF 4592210274265328598 = some k ∧ Bt 4607133076420061127 k 4607133076420061127 := ⟨4607133076420061127, by kernel_rfl, Bt.const (by kernel_rfl)⟩
  obtain ⟨n3, hn3, bn3⟩ := sub_bt 4572965846788086912 4572965846788086912 (Bt.const (k := 4607182418800017408) (by kernel_rfl)) bk (by kernel_rfl)
  obtain ⟨n4, hn4, bn4⟩ := mul_bt 4568462257721792608 4607326771823189586 bc bc (by kernel_rfl)
  obtain ⟨n5, hn5, bn5⟩ := div_bt 4572769694105745132 4611686003365924984 bn3 bn4 (by kernel_rfl)
  obtain ⟨n6, hn6, bn6⟩ := sub_bt 13830554425531867376 4607134608862891923 (Bt.const (k := 4607182418800017408) (by kernel_rfl)) bn5 (by kernel_rfl)
  obtain ⟨v, hv, bv⟩ := acos_bt (bn6.weak (by kernel_rfl))
  obtain ⟨n7, hn7, bn7⟩ := div_bt 4610977045274733058 4634629512360524041 (Bt.const (k := 4618760256179416344) (by kernel_rfl)) bv (by kernel_rfl)
  have hq1 : 1 * scale ≤ val n7 := Int.le_trans (of_decide_eq_true (by kernel_rfl)) bn7.lo
  have hq2 : val n7 < (70 + 1) * scale := Int.lt_of_le_of_lt bn7.hi (of_decide_eq_true (by kernel_rfl))
  obtain ⟨s, M, e, hs1, hs2⟩ := floor_between bn7.fine (lo := 1) (hi := 70) hq1 hq2
  have hM : M < 200 := sgn_abs hs1 hs2 (by decide) (by decide)
  obtain ⟨hwf, hwv⟩ := whole_exact (s := s) hM
  have hsp := scale_pos
  have hvn : val (floorW n7) / scale = sgn s M := by rw [e, hwv]; exact Int.mul_ediv_cancel _ (Int.ne_of_gt hsp)
  have hnn : 0 ≤ val (floorW n7) := by rw [e, hwv]; exact Int.mul_nonneg (by omega) (Int.le_of_lt hsp)
  have hti : (FloatKind.f64.decode (floorW n7)).toInt .zero = some (val (floorW n7) / scale) := toInt_fine (by rw [e]; exact hwf) hnn
  have hfin : (if fineB n7 then floatToIntVal .f64 (floorW n7) .i64 else none) = some (sgn s M) := by
    rw [if_pos (fineB_of bn7.fine)]
    unfold floatToIntVal
    rw [hti, hvn]
    have e1 : IntKind.i64.min = -9223372036854775808 := by decide
    have e2 : IntKind.i64.max = 9223372036854775807 := by decide
    simp only [e1, e2]
    rw [if_pos ⟨by omega, by omega⟩]
  exact ⟨sgn s M, (bind_to hn1 (bind_to hn2 (bind_to hc (bind_to hk (bind_to hn3 (bind_to hn4 (bind_to hn5 (bind_to hn6 (bind_to hv (bind_to hn7 hfin)))))))))), hs1, hs2⟩

end Go.Proofs.YbulkcyuwDoor
