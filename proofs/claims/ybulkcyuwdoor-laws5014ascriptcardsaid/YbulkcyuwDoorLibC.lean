/-
  wrapAt (16), nearestZone (20), Round (21), Pow10 (22) at 5, roundDecimals (14) at 5, zzs5014around (9), zzs5014aeq (8), since (12), zzs5014asince (5).
-/
import Derived.Test.YbulkcyuwDoorLibB
import Derived.Laws.Bits64b
import Derived.BigQuiet
import Derived.BigRegion
namespace Go.Proofs.YbulkcyuwDoor
open Go.RowKit

def wrapF (a l : Nat) : Option Nat := if fgeB a l then fs a 4645040803167600640 else some a
theorem wrapAt_any (a l r : Nat) (h : wrapF a l = some r) (w : World) :
    Calls Ybad.prog 16 #[.float .f64 a, .float .f64 l] w fun e w' => e = .returned (.float .f64 r) ∧ w' = w := by
  unfold wrapF at h
  by_cases h1 : (FloatKind.f64.format.order a l == some .gt || FloatKind.f64.format.order a l == some .eq) = true
  · rw [if_pos h1] at h
    replace h := run_op h
    go_enter Ybad.func16, Ybad.ntmps16
    go_wp2_with fail
    go_ret
    exact ⟨rfl, rfl⟩
  · rw [if_neg h1] at h
    cases h
    replace h1 := Bool.eq_false_iff.2 h1
    go_enter Ybad.func16, Ybad.ntmps16
    go_wp2_with fail
    go_ret
    exact ⟨rfl, rfl⟩

def nearestF (r f : Nat) : Option Nat := (fs r f).bind fun a => (fa a 4602678819172646912).bind fun b => if fineB b then some (floorW b) else none
theorem nearestZone_any (a f r : Nat) (h : nearestF a f = some r) (w : World) :
    Calls Ybad.prog 20 #[.float .f64 a, .float .f64 f] w fun e w' => e = .returned (.float .f64 r) ∧ w' = w := by
  unfold nearestF at h
  simp only [Option.bind_eq_some_iff] at h
  obtain ⟨c, hc, b, hb, h⟩ := h
  by_cases hf : fineB b = true
  case neg => rw [if_neg hf] at h; cases h
  rw [if_pos hf] at h
  cases h
  replace hc := run_op hc
  replace hb := run_op hb
  go_enter Ybad.func20, Ybad.ntmps20
  go_wp2_with fail
  refine (floor_any b (fine_of hf) _).mono ?_
  rintro e w1 ⟨rfl, rfl⟩
  go_wp2_with fail
  go_ret
  exact ⟨rfl, rfl⟩

/-- The exponent field. -/
def expo (x : Nat) : Nat := x / 4503599627370496 % 2048
theorem bits_expo (x : Nat) (hx : x < 2 ^ 64) : bits .and .u64 ((x : Int) / 4503599627370496) 2047 = (expo x : Int) := by
  rw [show ((x : Int) / 4503599627370496) = ((x / 4503599627370496 : Nat) : Int) from by omega, show (2047 : Int) = ((2047 : Nat) : Int) from rfl, bits_and_u64_nat _ _ (by omega) (by omega)]
  rw [show (2047 : Nat) = 2 ^ 11 - 1 from rfl, Nat.and_two_pow_sub_one_eq_mod]; rfl

def roundW (x : Nat) : Nat :=
  if expo x < 1022 then (bits .and .u64 (x : Int) 9223372036854775808).toNat
  else if expo x = 1022 then (bits .or .u64 (bits .and .u64 (x : Int) 9223372036854775808) 4607182418800017408).toNat
  else if expo x < 1075 then (bits .andNot .u64 (IntKind.u64.wrap ((x : Int) + 2251799813685248 / 2 ^ (expo x - 1023))) (4503599627370495 / 2 ^ (expo x - 1023))).toNat
  else x

set_option maxRecDepth 100000 in
theorem round_any (x : Nat) (hx : x < 2 ^ 64) (w : World) :
    Calls Ybad.prog 21 #[.float .f64 x] w fun e w' => e = .returned (.float .f64 (roundW x)) ∧ w' = w := by
  have hb := call_bits
  have hf := call_frombits
  have he := bits_expo x hx
  unfold roundW
  by_cases h1 : expo x < 1022
  · rw [if_pos h1]
    generalize expo x = E at *
    have d1 : ((E : Int) < 1023) := by omega
    have d2 : ¬ ((E : Int) = 1022) := by omega
    go_enter Ybad.func21, Ybad.ntmps21
    go_wp2_with fail
    go_ret
    exact ⟨rfl, rfl⟩
  rw [if_neg h1]
  by_cases h2 : expo x = 1022
  · rw [if_pos h2]
    rw [h2] at he
    have he' : bits .and .u64 ((x : Int) / 4503599627370496) 2047 = 1022 := he
    go_enter Ybad.func21, Ybad.ntmps21
    go_wp2_with fail
    go_ret
    exact ⟨rfl, rfl⟩
  rw [if_neg h2]
  by_cases h3 : expo x < 1075
  · rw [if_pos h3]
    generalize expo x = E at *
    have d1 : ¬ ((E : Int) < 1023) := by omega
    have d2 : ((E : Int) < 1075) := by omega
    have d3 : IntKind.u64.wrap ((E : Int) - 1023) = ((E - 1023 : Nat) : Int) := by rw [IntKind.wrap_u64]; omega
    go_enter Ybad.func21, Ybad.ntmps21
    go_wp2_with fail
    go_ret
    exact ⟨rfl, rfl⟩
  · rw [if_neg h3]
    generalize expo x = E at *
    have d1 : ¬ ((E : Int) < 1023) := by omega
    have d2 : ¬ ((E : Int) < 1075) := by omega
    go_enter Ybad.func21, Ybad.ntmps21
    go_wp2_with fail
    go_ret
    exact ⟨rfl, rfl⟩

theorem and_sign (x : Nat) (hx : x < 2 ^ 64) : bits .and .u64 (x : Int) 9223372036854775808 = 0 ∨ bits .and .u64 (x : Int) 9223372036854775808 = 9223372036854775808 := by
  rw [show (9223372036854775808 : Int) = ((9223372036854775808 : Nat) : Int) from rfl, bits_and_u64_nat _ _ (by omega) (by omega)]
  have h1 : x &&& 9223372036854775808 ≤ 9223372036854775808 := Nat.and_le_right
  have h2 : (x &&& 9223372036854775808) % 2 ^ 63 = (x % 2 ^ 63) &&& (9223372036854775808 % 2 ^ 63) := Nat.and_mod_two_pow
  rw [show (9223372036854775808 % 2 ^ 63 : Nat) = 0 from rfl, Nat.and_zero] at h2
  omega

theorem round_fine {x : Nat} (hx : Fine x) : Fine (roundW x) := by
  obtain ⟨h64, h63⟩ := hx
  unfold roundW
  have hs := and_sign x h64
  split
  · rcases hs with e | e <;> rw [e] <;> exact fine_of (by kernel_rfl)
  split
  · rcases hs with e | e <;> rw [e] <;> exact fine_of (by kernel_rfl)
  split
  · rename_i h1 h2 h3
    have hE : x % 2 ^ 63 < 1075 * 2 ^ 52 := by unfold expo at h3; omega
    have hpow := Nat.two_pow_pos (expo x - 1023)
    have hh : 2251799813685248 / 2 ^ (expo x - 1023) ≤ 2251799813685248 := Nat.div_le_self _ _
    have hm : 4503599627370495 / 2 ^ (expo x - 1023) ≤ 4503599627370495 := Nat.div_le_self _ _
    have ch : ((2251799813685248 : Int) / 2 ^ (expo x - 1023)) = ((2251799813685248 / 2 ^ (expo x - 1023) : Nat) : Int) := by simp
    have cm : ((4503599627370495 : Int) / 2 ^ (expo x - 1023)) = ((4503599627370495 / 2 ^ (expo x - 1023) : Nat) : Int) := by simp
    rw [ch, cm]
    generalize (2251799813685248 / 2 ^ (expo x - 1023) : Nat) = H at *
    generalize (4503599627370495 / 2 ^ (expo x - 1023) : Nat) = M at *
    have hw : IntKind.u64.wrap ((x : Int) + (H : Int)) = ((x + H : Nat) : Int) := by rw [IntKind.wrap_u64]; omega
    rw [hw, bits_andNot_u64 _ _ (by omega) (by omega)]
    rw [Int.toNat_natCast]
    have hle := Nat.and_le_left (n := x + H) (m := 18446744073709551615 - M)
    refine ⟨by omega, ?_⟩
    rw [Nat.and_mod_two_pow]
    refine Nat.lt_of_le_of_lt Nat.and_le_left ?_
    omega
  · exact ⟨h64, h63⟩

def roundF (x : Nat) : Option Nat := (fm x 4681608360884174848).bind fun a => if fineB a then fq (roundW a) 4681608360884174848 else none

theorem around_any (x r : Nat) (h : roundF x = some r) (w : World) :
    Calls Ybad.prog 9 #[.float .f64 x] w fun e w' => e = .returned (.float .f64 r) ∧ w' = w := by
  unfold roundF at h
  simp only [Option.bind_eq_some_iff] at h
  obtain ⟨a, ha, h⟩ := h
  by_cases hf : fineB a = true
  case neg => rw [if_neg hf] at h; cases h
  rw [if_pos hf] at h
  replace ha := run_op ha
  replace h := run_op h
  go_enter Ybad.func9, Ybad.ntmps9
  go_wp2_with fail
  refine (round_any a (fine_of hf).1 _).mono ?_
  rintro e w1 ⟨rfl, rfl⟩
  go_wp2_with fail
  go_ret
  exact ⟨rfl, rfl⟩

theorem eq_same (x : Nat) (w : World) :
    Calls Ybad.prog 8 #[.float .f64 x, .float .f64 x] w fun e w' => e = .returned (.bool true) ∧ w' = w := by
  rcases hb : (FloatKind.f64.format.order x x == some .eq) with _ | _
  · have hn : (FloatKind.f64.format.order x x != some .eq) = true := by rw [bne, hb]; rfl
    go_enter Ybad.func8, Ybad.ntmps8
    go_wp2_with fail
    go_ret
    exact ⟨rfl, rfl⟩
  · go_enter Ybad.func8, Ybad.ntmps8
    go_wp2_with fail
    go_ret
    exact ⟨rfl, rfl⟩

/-- The ticks between two times. -/
def sinceV (a b : Int) : Int := bits .and .i64 (wrap64 (a - b)) 281474976710655
theorem since_any (a b : Int) (w : World) :
    Calls Ybad.prog 12 #[.int .i64 a, .int .i64 b] w fun e w' => e = .returned (.int .i64 (sinceV a b)) ∧ w' = w := by
  go_enter Ybad.func12, Ybad.ntmps12
  go_wp2_with fail
  go_ret
  exact ⟨rfl, rfl⟩
theorem zzsince_any (a b : Int) (w : World) :
    Calls Ybad.prog 5 #[.int .i64 a, .int .i64 b] w fun e w' => e = .returned (.int .i64 (sinceV a b)) ∧ w' = w := by
  go_enter Ybad.func5, Ybad.ntmps5
  go_wp2_with fail
  go_ret
  exact ⟨rfl, rfl⟩

/-- Of the blocks that were there none turns but those of S. -/
structure Grew (S : Nat → Prop) (w w' : World) : Prop where
  os : w'.os = w.os
  tape : w'.tape = w.tape
  output : w'.output = w.output
  size : w.heap.size ≤ w'.heap.size
  block : ∀ k, k < w.heap.size → ¬ S k → w'.heap[k]? = w.heap[k]?

theorem Grew.refl (S : Nat → Prop) (w : World) : Grew S w w := ⟨rfl, rfl, rfl, Nat.le_refl _, fun _ _ _ => rfl⟩
theorem Grew.trans {S T : Nat → Prop} {x y z : World} (h : Grew S x y) (k : Grew T y z) (hT : ∀ i, i < x.heap.size → T i → S i) : Grew S x z :=
  ⟨k.os.trans h.os, k.tape.trans h.tape, k.output.trans h.output, Nat.le_trans h.size k.size, fun i hi hs => (k.block i (Nat.lt_of_lt_of_le hi h.size) (fun e => hs (hT i hi e))).trans (h.block i hi hs)⟩
theorem Grew.mono {S T : Nat → Prop} {x y : World} (h : Grew S x y) (hs : ∀ i, i < x.heap.size → S i → T i) : Grew T x y :=
  ⟨h.os, h.tape, h.output, h.size, fun i hi ht => h.block i hi (fun e => ht (hs i hi e))⟩
theorem Grew.drew {S : Nat → Prop} {x y : World} (h : Grew S x y) : Grew S x y.drew := ⟨h.os, h.tape, h.output, h.size, h.block⟩
theorem Grew.drewN {S : Nat → Prop} {x y : World} (h : Grew S x y) (n : Nat) : Grew S x (y.drewN n) := ⟨h.os, h.tape, h.output, h.size, h.block⟩
theorem Grew.setCell {S : Nat → Prop} {x y : World} (h : Grew S x y) {a : Addr} (ha : a.block < x.heap.size → S a.block) (v : Value) : Grew S x (y.setCell a v) :=
  ⟨h.os, h.tape, h.output, by rw [show (y.setCell a v).heap.size = y.heap.size from by simp [World.setCell]]; exact h.size, fun i hi hs => by
    rw [Below.heap_setCell _ _ _ _ (fun e => hs (by subst e; exact ha hi))]; exact h.block i hi hs⟩
theorem Grew.alloc {S : Nat → Prop} {x y : World} (h : Grew S x y) (o : Obj) : Grew S x (y.alloc o) :=
  ⟨h.os, h.tape, h.output, by rw [World.size_alloc]; have := h.size; omega, fun i hi hs => by rw [← h.block i hi hs]; exact (World.grownBy_alloc y o none).block i (Nat.lt_of_lt_of_le hi h.size) (by simp)⟩
theorem Grew.row {S : Nat → Prop} {x y : World} (h : Grew S x y) {b : Nat} {t : TypeId} {n : Nat} {f : Nat → Value} (hb : ¬ S b) (r : x.rowIs b t n f) : y.rowIs b t n f := r.of_block (h.block b r.lt hb)
theorem Grew.below {S : Nat → Prop} {x y : World} (h : Grew S x y) {B : Nat} (hx : B ≤ x.heap.size) (hB : ∀ k, S k → B ≤ k) : Below B x y :=
  ⟨h.os, h.tape, h.output, h.size, fun k hk => h.block k (by omega) (fun e => by have := hB k e; omega)⟩
theorem cell_lt {w : World} {b i : Nat} {v : Value} (h : w.cell? ⟨b, i, none⟩ = some v) : b < w.heap.size := by
  rcases Nat.lt_or_ge b w.heap.size with e | e
  · exact e
  · unfold World.cell? at h; simp [Array.getElem?_eq_none e] at h
theorem Grew.cell {S : Nat → Prop} {x y : World} (h : Grew S x y) {b i : Nat} {v : Value} (hb : ¬ S b) (hc : x.cell? ⟨b, i, none⟩ = some v) : y.cell? ⟨b, i, none⟩ = some v := by
  rw [← hc]; exact World.cell?_of_block (h.block b (cell_lt hc) hb)

/-- The tables that the road reads stand in their places. -/
def Tabs (w : World) : Prop := Trig w ∧ w.cell? ⟨1, 0, none⟩ = some (.float .f64 4607182418800017408) ∧ w.cell? ⟨2, 5, none⟩ = some (.float .f64 4681608360884174848)

set_option maxRecDepth 100000 in
theorem pow10_any (w : World) (hT : Tabs w) :
    Calls Ybad.prog 22 #[.int .i64 5] w fun e w' => e = .returned (.float .f64 4681608360884174848) ∧ Grew (fun _ => False) w w' := by
  have c1 := hT.2.1
  have c2 := hT.2.2
  have hm : ∀ t w, (binOp .mul t (.float .f64 4607182418800017408) (.float .f64 4681608360884174848)).run Ybad.prog w = .ok (.float .f64 4681608360884174848) w := run_op (by decide +kernel)
  clear hT
  go_enter Ybad.func22, Ybad.ntmps22
  go_wp2_with fail
  go_quiet (fail)
  go_wp2_with fail
  go_ret
  exact ⟨rfl, (Grew.refl _ _).drewN _⟩

theorem Grew.tabs {S : Nat → Prop} {x y : World} (h : Grew S x y) (hS : ∀ k, S k → 5 < k) (hT : Tabs x) : Tabs y := by
  have hn : ∀ k, k ≤ 5 → ¬ S k := fun k hk hs => by have := hS k hs; omega
  obtain ⟨⟨h1, h2⟩, h3, h4⟩ := hT
  exact ⟨⟨fun j hj => h.cell (hn 4 (by omega)) (h1 j hj), fun j hj => h.cell (hn 5 (by omega)) (h2 j hj)⟩, h.cell (hn 1 (by omega)) h3, h.cell (hn 2 (by omega)) h4⟩

theorem roundDec_any (x r : Nat) (h : roundF x = some r) (w : World) (hT : Tabs w) :
    Calls Ybad.prog 14 #[.float .f64 x, .int .i64 5] w fun e w' => e = .returned (.float .f64 r) ∧ Grew (fun _ => False) w w' := by
  unfold roundF at h
  simp only [Option.bind_eq_some_iff] at h
  obtain ⟨a, ha, h⟩ := h
  by_cases hf : fineB a = true
  case neg => rw [if_neg hf] at h; cases h
  rw [if_pos hf] at h
  replace ha := run_op ha
  replace h := run_op h
  have HT := hide hT
  clear hT
  go_enter Ybad.func14, Ybad.ntmps14
  go_wp2_with fail
  refine (pow10_any _ (unhide HT)).mono ?_
  rintro e w1 ⟨rfl, hG⟩
  have HG := hide hG
  clear hG
  go_wp2_with fail
  refine (round_any a (fine_of hf).1 _).mono ?_
  rintro e w1 ⟨rfl, rfl⟩
  go_wp2_with fail
  go_ret
  exact ⟨rfl, unhide HG⟩

end Go.Proofs.YbulkcyuwDoor
