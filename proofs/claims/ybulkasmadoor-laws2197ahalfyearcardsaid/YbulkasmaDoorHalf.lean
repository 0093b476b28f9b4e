/-
  Plain facts on the doubles that are whole numbers of halves ('fl R': the word of R / 2): their bits; their order; what math's bit work on them gives; one round of math.mod. No Go in it but 'bits'.
-/
import Derived.Test.YbulkasmaDoorFloatOps
import Derived.Laws.BitsAllLaws
import Derived.Laws.Bits64b
import Derived.Laws.BitsLemmas
namespace Go.Proofs.YbulkasmaDoor.Fl
open Ieee

/-- The word of R / 2. -/
def fl (R : Int) : Nat := double.write (.number (decide (R < 0)) R.natAbs (-1))

theorem fl_dv (R : Int) : DV (.number (decide (R < 0)) R.natAbs (-1)) R (-1) := by
  refine ⟨_, _, _, rfl, -1, Int.le_refl _, Int.le_refl _, ?_⟩
  unfold EqAt sg
  simp only [Int.sub_self, Int.toNat_zero, Int.pow_zero, Int.mul_one]
  by_cases hn : R < 0
  · simp [hn]; omega
  · simp [hn]; omega
theorem fl_at (R : Int) (h : R.natAbs < 9007199254740992) : At (fl R) R (-1) := (fl_dv R).write h (by omega) (by omega)
theorem fl_zero : fl 0 = 0 := by decide
theorem write_fl {d : Datum} {R : Int} (h : DV d R (-1)) (h0 : R ≠ 0) (hb : R.natAbs < 9007199254740992) : double.write d = fl R := by
  rw [(h.write_word h0 hb (by omega) (by omega)).1]
  exact ((fl_dv R).write_word h0 hb (by omega) (by omega)).1.symm

/-- The significand of R / 2, 53 bits long. -/
def sigK (R : Nat) : Nat := R * 2 ^ (52 - R.log2)

theorem log2_le {R : Nat} (h0 : 0 < R) (hb : R < 1099511627776) : R.log2 ≤ 39 := by
  have h1 := (Nat.log2_eq_iff (Nat.ne_of_gt h0)).1 rfl
  rcases Nat.lt_or_ge 39 R.log2 with h | h
  · have : 2 ^ 40 ≤ 2 ^ R.log2 := Nat.pow_le_pow_right (by omega) h
    omega
  · exact h
theorem sigK_bounds {R : Nat} (h0 : 0 < R) (hb : R < 1099511627776) : 4503599627370496 ≤ sigK R ∧ sigK R < 9007199254740992 := by
  have h1 := (Nat.log2_eq_iff (Nat.ne_of_gt h0)).1 rfl
  have hl := log2_le h0 hb
  unfold sigK
  have h2 : 2 ^ R.log2 * 2 ^ (52 - R.log2) ≤ R * 2 ^ (52 - R.log2) := Nat.mul_le_mul_right _ h1.1
  have h3 : R * 2 ^ (52 - R.log2) < 2 ^ (R.log2 + 1) * 2 ^ (52 - R.log2) := Nat.mul_lt_mul_of_pos_right h1.2 (Nat.two_pow_pos _)
  rw [← Nat.pow_add] at h2 h3
  rw [show R.log2 + (52 - R.log2) = 52 by omega] at h2
  rw [show R.log2 + 1 + (52 - R.log2) = 53 by omega] at h3
  exact ⟨h2, h3⟩

theorem fl_pos {R : Nat} (h0 : 0 < R) (hb : R < 1099511627776) : fl R = (R.log2 + 1021) * 4503599627370496 + sigK R := by
  have hl := log2_le h0 hb
  have h := ((fl_dv (R : Int)).write_word (by omega) (by omega) (by omega) (by omega)).1
  have hlift : lift (R : Int) (-1) = R.log2 + 1021 := by
    unfold lift
    rw [Int.natAbs_natCast]
    omega
  unfold fl
  rw [h]
  unfold rungOf
  rw [hlift, Int.natAbs_natCast, show decide ((R : Int) < 0) = false by simp]
  unfold Format.word sigK
  simp only [Bool.false_eq_true, if_false]
  rw [show (-1 - (-1074 + ((R.log2 + 1021 : Nat) : Int))).toNat = 52 - R.log2 by omega]
theorem fl_neg {R : Nat} (h0 : 0 < R) (hb : R < 1099511627776) : fl (-(R : Int)) = 9223372036854775808 + fl R := by
  have h := ((fl_dv (-(R : Int))).write_word (by omega) (by omega) (by omega) (by omega)).1
  have h' := ((fl_dv (R : Int)).write_word (by omega) (by omega) (by omega) (by omega)).1
  have e : rungOf (-(R : Int)) (-1) = rungOf (R : Int) (-1) := by
    unfold rungOf lift; rw [Int.natAbs_neg]
  have e1 : fl (-(R : Int)) = double.word true (rungOf R (-1)) := by
    have : decide (-(R : Int) < 0) = true := by simp; omega
    rw [this, e] at h
    unfold fl; rw [this]; exact h
  have e2 : fl (R : Int) = double.word false (rungOf R (-1)) := by
    have : decide ((R : Int) < 0) = false := by simp
    rw [this] at h'
    unfold fl; rw [this]; exact h'
  rw [e1, e2]
  unfold Format.word
  rw [sign_weight]
  simp
theorem fl_lt {R : Nat} (hb : R < 1099511627776) : fl R < 9223372036854775808 := by
  by_cases h0 : R = 0
  · subst h0; decide
  · have hp : 0 < R := Nat.pos_of_ne_zero h0
    have := sigK_bounds hp hb
    have hl := log2_le hp hb
    rw [fl_pos hp hb]
    omega

/-- The words rise with the numbers. -/
theorem fl_mono {R' R : Nat} (h : R' < R) (hb : R < 1099511627776) : fl R' < fl R := by
  have hR : 0 < R := by omega
  have kR := sigK_bounds hR hb
  rw [fl_pos hR hb]
  by_cases h0 : R' = 0
  · subst h0
    have : fl ((0 : Nat) : Int) = 0 := by decide
    omega
  · have hR' : 0 < R' := Nat.pos_of_ne_zero h0
    have kR' := sigK_bounds hR' (by omega)
    rw [fl_pos hR' (by omega)]
    have l1 := (Nat.log2_eq_iff (Nat.ne_of_gt hR)).1 rfl
    have l2 := (Nat.log2_eq_iff (Nat.ne_of_gt hR')).1 rfl
    rcases Nat.lt_trichotomy R'.log2 R.log2 with hl | hl | hl
    · omega
    · have : sigK R' < sigK R := by
        unfold sigK; rw [hl]
        exact Nat.mul_lt_mul_of_pos_right h (Nat.two_pow_pos _)
      rw [hl]; omega
    · have : 2 ^ (R.log2 + 1) ≤ 2 ^ R'.log2 := Nat.pow_le_pow_right (by omega) hl
      omega

/-! ### Bits -/
theorem xor_hi (x : Nat) (h : x < 9223372036854775808) : x ^^^ 9223372036854775808 = 9223372036854775808 + x := by
  apply Nat.eq_of_testBit_eq
  intro i
  rw [Nat.testBit_xor, show (9223372036854775808 : Nat) = 2 ^ 63 from rfl, Nat.testBit_two_pow]
  rcases Nat.lt_trichotomy i 63 with hi | hi | hi
  · rw [Nat.testBit_two_pow_add_gt hi]
    have : decide (63 = i) = false := by simp; omega
    rw [this]; simp
  · subst hi
    rw [Nat.testBit_two_pow_add_eq, Nat.testBit_lt_two_pow h]
    simp
  · have h1 : x < 2 ^ i := by
      have : 2 ^ 63 ≤ 2 ^ i := Nat.pow_le_pow_right (by omega) (by omega)
      omega
    have h2 : 2 ^ 63 + x < 2 ^ i := by
      have : 2 ^ 64 ≤ 2 ^ i := Nat.pow_le_pow_right (by omega) hi
      omega
    rw [Nat.testBit_lt_two_pow h1, Nat.testBit_lt_two_pow h2]
    simp; omega
theorem xor_lo (x : Nat) (h : x < 9223372036854775808) : (9223372036854775808 + x) ^^^ 9223372036854775808 = x := by
  rw [← xor_hi x h, Nat.xor_assoc, Nat.xor_self, Nat.xor_zero]

/-- '-x'. -/
theorem neg_fl_pos {R : Nat} (h0 : 0 < R) (hb : R < 1099511627776) : Op.negFloat .f64 (fl R) = fl (-(R : Int)) := by
  rw [fl_neg h0 hb]
  exact xor_hi _ (fl_lt hb)
theorem neg_fl_neg {R : Nat} (h0 : 0 < R) (hb : R < 1099511627776) : Op.negFloat .f64 (fl (-(R : Int))) = fl R := by
  rw [fl_neg h0 hb]
  exact xor_lo _ (fl_lt hb)

/-- What math.Abs gives. -/
def absW (x : Nat) : Nat := (bits .andNot .u64 x 9223372036854775808).toNat
theorem absW_mod (x : Nat) (h : x < 18446744073709551616) : absW x = x % 9223372036854775808 := by
  unfold absW
  have := u64_andNot_nat x 9223372036854775808 h (by decide)
  rw [show ((9223372036854775808 : Nat) : Int) = 9223372036854775808 from rfl] at this
  rw [this, Int.toNat_natCast, show (18446744073709551615 - 9223372036854775808 : Nat) = 2 ^ 63 - 1 from rfl, Nat.and_two_pow_sub_one_eq_mod]
theorem absW_fl {R : Nat} (hb : R < 1099511627776) : absW (fl R) = fl R := by
  have := fl_lt hb
  rw [absW_mod _ (by omega), Nat.mod_eq_of_lt this]
theorem absW_fl_neg {R : Nat} (h0 : 0 < R) (hb : R < 1099511627776) : absW (fl (-(R : Int))) = fl R := by
  have := fl_lt hb
  rw [fl_neg h0 hb, absW_mod _ (by omega)]
  omega

theorem compare_lt {a b : Int} (h : a < b) : compare a b = .lt := by simp [compare, compareOfLessAndEq, h]
theorem compare_gt {a b : Int} (h : b < a) : compare a b = .gt := by
  have h1 : ¬ a < b := by omega
  have h2 : ¬ a = b := by omega
  simp [compare, compareOfLessAndEq, h1, h2]
theorem compare_eq (a : Int) : compare a a = .eq := by simp [compare, compareOfLessAndEq]

theorem max_at : At 9218868437227405311 9007199254740991 971 := by
  refine ⟨false, 9007199254740991, 971, by decide +kernel, -1074, by decide, by decide, ?_⟩
  unfold EqAt sg; rfl
/-- math.IsInf of either sign, of R / 2: no. -/
def infB (x : Nat) : Bool := FloatKind.f64.format.order (absW x) 9218868437227405311 == some .gt
theorem infB_of {x R : Nat} (h : absW x = fl R) (hb : R < 1099511627776) : infB x = false := by
  unfold infB
  have hm : At 9218868437227405311 (9007199254740991 * 2 ^ 972) (-1) := max_at.rescale 972 rfl rfl
  rw [h, order_at (fl_at R (by omega)) hm]
  have hp := pow_pos' 972
  have : (R : Int) < 9007199254740991 * 2 ^ 972 := by
    have h1 : (9007199254740991 : Int) * 1 ≤ 9007199254740991 * 2 ^ 972 := Int.mul_le_mul_of_nonneg_left (by omega) (by omega)
    omega
  rw [compare_lt this]; rfl
/-- math.IsNaN. -/
def nanB (x : Nat) : Bool := FloatKind.f64.format.order x x != some .eq
theorem nanB_of {x : Nat} {n q : Int} (h : At x n q) : nanB x = false := by
  unfold nanB
  rw [order_at h h, compare_eq]; rfl
theorem small_at : At 4503599627370496 1 (-1022) := by
  refine ⟨false, 4503599627370496, -1074, by decide +kernel, -1074, by decide, by decide, ?_⟩
  unfold EqAt sg; rfl
theorem not_small {R : Nat} (h0 : 0 < R) (hb : R < 1099511627776) : (FloatKind.f64.format.order (fl R) 4503599627370496 == some .lt) = false := by
  have h1 : At (fl R) ((R : Int) * 2 ^ 1021) (-1022) := (fl_at R (by omega)).rescale 1021 rfl rfl
  rw [order_at h1 small_at]
  have hp := pow_pos' 1021
  have h2 : (1 : Int) ≤ R * 2 ^ 1021 := by
    have := Int.mul_le_mul_of_nonneg_right (show (1 : Int) ≤ R by omega) (Int.le_of_lt hp)
    omega
  by_cases h3 : (1 : Int) < R * 2 ^ 1021
  · rw [compare_gt h3]; rfl
  · have h4 : (R : Int) * 2 ^ 1021 = 1 := by omega
    rw [h4, compare_eq]; rfl
theorem zero_at (q : Int) : At 0 0 q := by
  unfold At
  rw [show double.read 0 = .number false 0 (-1074) by decide]
  exact DV.zero _ _ _

/-! ### Frexp -/
/-- The fraction that math.Frexp gives of R / 2. -/
def frW (R : Nat) : Nat := 1021 * 4503599627370496 + sigK R
theorem frW_at {R : Nat} (h0 : 0 < R) (hb : R < 1099511627776) : At (frW R) (sigK R) (-53) := by
  have k := sigK_bounds h0 hb
  unfold At frW
  have h := read_rung false 1021 (sigK R) (by omega) k.2 (.inr k.1)
  have hw : double.word false (1021 * 4503599627370496 + sigK R) = 1021 * 4503599627370496 + sigK R := rfl
  rw [hw] at h
  rw [h]
  exact ⟨false, _, _, rfl, _, Int.le_refl _, Int.le_refl _, rfl⟩
theorem hi_bits {R : Nat} (h0 : 0 < R) (hb : R < 1099511627776) : (fl R : Int) / 4503599627370496 = (R.log2 : Int) + 1022 := by
  have k := sigK_bounds h0 hb
  rw [fl_pos h0 hb]
  omega
theorem and_mask {R : Nat} (h0 : 0 < R) (hb : R < 1099511627776) : bits .and .u64 ((R.log2 : Int) + 1022) 2047 = (R.log2 : Int) + 1022 := by
  have hl := log2_le h0 hb
  have := u64_and_nat (R.log2 + 1022) 2047 (by omega) (by decide)
  rw [nat_mask11, Nat.mod_eq_of_lt (by omega)] at this
  simpa using this
theorem and_mask_i {R : Nat} (h0 : 0 < R) (hb : R < 1099511627776) : bits .and .i64 ((R.log2 : Int) + 1022) 2047 = (R.log2 : Int) + 1022 := by
  have hl := log2_le h0 hb
  have := bits_mask .i64 63 (by decide) (fun n h1 h2 => by rw [IntKind.wrap_i64]; omega) 11 (by decide) ((R.log2 : Int) + 1022) (by omega) (by omega)
  rw [show ((2 : Int) ^ 11 - 1) = 2047 from rfl] at this
  rw [this]
  show ((R.log2 : Int) + 1022) % 2048 = _
  omega
theorem lo_bits {R : Nat} (h0 : 0 < R) (hb : R < 1099511627776) : bits .andNot .u64 (fl R : Int) 9218868437227405312 = ((sigK R - 4503599627370496 : Nat) : Int) := by
  have k := sigK_bounds h0 hb
  have hlt := fl_lt hb
  have := u64_andNot_nat (fl R) 9218868437227405312 (by omega) (by decide)
  rw [show ((9218868437227405312 : Nat) : Int) = 9218868437227405312 from rfl] at this
  rw [this, show (18446744073709551615 - 9218868437227405312 : Nat) = 2 ^ 63 ||| (2 ^ 52 - 1) by decide, Nat.and_or_distrib_left, Nat.and_two_pow_sub_one_eq_mod]
  rw [show fl R &&& 2 ^ 63 = 0 by rw [nat_bit 63, Nat.div_eq_of_lt hlt], Nat.zero_or]
  have hm : fl R % 2 ^ 52 = sigK R - 4503599627370496 := by
    rw [fl_pos h0 hb]
    show ((R.log2 + 1021) * 4503599627370496 + sigK R) % 4503599627370496 = _
    omega
  rw [hm]
theorem or_exp {m : Nat} (h : m < 4503599627370496) (e : Nat) (he : e < 2048) : bits .or .u64 (m : Int) ((e * 4503599627370496 : Nat) : Int) = ((e * 4503599627370496 + m : Nat) : Int) := by
  have := u64_or_nat m (e * 4503599627370496) (by omega) (by omega)
  rw [this, Nat.or_comm]
  congr 1
  exact nat_join 52 _ _ (by show e * 4503599627370496 % 4503599627370496 = 0; omega) h

/-! ### One round of math.mod -/
theorem step_ge {R B : Nat} (hB : 0 < B) (hRB : B ≤ R) (hb : R < 1099511627776) (hk : sigK B ≤ sigK R) : B.log2 ≤ R.log2 ∧ B * 2 ^ (R.log2 - B.log2) ≤ R := by
  have hR : 0 < R := by omega
  have hl := log2_le hR hb
  have l1 := (Nat.log2_eq_iff (Nat.ne_of_gt hR)).1 rfl
  have l2 := (Nat.log2_eq_iff (Nat.ne_of_gt hB)).1 rfl
  have hle : B.log2 ≤ R.log2 := by
    rcases Nat.lt_or_ge R.log2 B.log2 with h | h
    · have : 2 ^ (R.log2 + 1) ≤ 2 ^ B.log2 := Nat.pow_le_pow_right (by omega) h
      omega
    · exact h
  refine ⟨hle, ?_⟩
  have h1 : B * 2 ^ (R.log2 - B.log2) * 2 ^ (52 - R.log2) ≤ R * 2 ^ (52 - R.log2) := by
    rw [Nat.mul_assoc, ← Nat.pow_add, show R.log2 - B.log2 + (52 - R.log2) = 52 - B.log2 by omega]
    exact hk
  exact Nat.le_of_mul_le_mul_right h1 (Nat.two_pow_pos _)
theorem step_lt {R B : Nat} (hB : 0 < B) (hRB : B ≤ R) (hb : R < 1099511627776) (hk : sigK R < sigK B) : B.log2 + 1 ≤ R.log2 ∧ B * 2 ^ (R.log2 - 1 - B.log2) ≤ R := by
  have hR : 0 < R := by omega
  have hl := log2_le hR hb
  have l1 := (Nat.log2_eq_iff (Nat.ne_of_gt hR)).1 rfl
  have l2 := (Nat.log2_eq_iff (Nat.ne_of_gt hB)).1 rfl
  have hle : B.log2 + 1 ≤ R.log2 := by
    rcases Nat.lt_trichotomy R.log2 B.log2 with h | h | h
    · have : 2 ^ (R.log2 + 1) ≤ 2 ^ B.log2 := Nat.pow_le_pow_right (by omega) h
      omega
    · exfalso
      unfold sigK at hk
      rw [h] at hk
      have := Nat.mul_le_mul_right (2 ^ (52 - B.log2)) hRB
      omega
    · exact h
  refine ⟨hle, ?_⟩
  have h1 : B * 2 ^ (R.log2 - 1 - B.log2) < 2 ^ (B.log2 + 1) * 2 ^ (R.log2 - 1 - B.log2) := Nat.mul_lt_mul_of_pos_right l2.2 (Nat.two_pow_pos _)
  rw [← Nat.pow_add, show B.log2 + 1 + (R.log2 - 1 - B.log2) = R.log2 by omega] at h1
  omega
/-- The word that math.Ldexp makes. -/
theorem fl_shift {B n : Nat} (hB : 0 < B) (hb : B * 2 ^ n < 1099511627776) : fl ((B * 2 ^ n : Nat) : Int) = (n + B.log2 + 1022) * 4503599627370496 + (sigK B - 4503599627370496) := by
  have hB' : B < 1099511627776 := Nat.lt_of_le_of_lt (Nat.le_mul_of_pos_right _ (Nat.two_pow_pos _)) hb
  have k := sigK_bounds hB hB'
  have hp : 0 < B * 2 ^ n := Nat.mul_pos hB (Nat.two_pow_pos _)
  have hl := log2_le hp hb
  rw [log2_shift (Nat.ne_of_gt hB)] at hl
  rw [fl_pos hp hb]
  have hs : sigK (B * 2 ^ n) = sigK B := by
    unfold sigK
    rw [log2_shift (Nat.ne_of_gt hB), Nat.mul_assoc, ← Nat.pow_add]
    congr 2
    omega
  rw [hs, log2_shift (Nat.ne_of_gt hB)]
  omega

theorem sub_self_zero {x m : Nat} {i : Int} (h : Ieee.double.read x = .number false m i) : floatBits .sub .f64 x x = some 0 := by
  show ((Ieee.double.read x).sum (Ieee.double.read x).opposite).map Ieee.double.write = some 0
  rw [h]
  have : (Ieee.Datum.number false m i).sum (Ieee.Datum.number false m i).opposite = some (.number false 0 i) := by
    simp only [Ieee.Datum.opposite, Ieee.Datum.sum, signed_eq, sg, Int.min_self, Int.sub_self, Int.toNat_zero, Int.pow_zero, Int.mul_one]
    simp
    omega
  rw [this]
  rfl
theorem fl_read {R : Nat} (h0 : 0 < R) (hb : R < 1099511627776) : ∃ m i, double.read (fl R) = .number false m i := by
  obtain ⟨_, hr, _⟩ := (fl_dv (R : Int)).write_word (by omega) (by omega) (by omega) (by omega)
  rw [show decide ((R : Int) < 0) = false by simp] at hr
  unfold fl
  rw [show decide ((R : Int) < 0) = false by simp]
  exact ⟨_, _, hr⟩
theorem sub_fl {R C : Nat} (hC : 0 < C) (h : C ≤ R) (hb : R < 1099511627776) : floatBits .sub .f64 (fl R) (fl C) = some (fl ((R - C : Nat) : Int)) := by
  by_cases he : R = C
  · subst he
    obtain ⟨m, i, hr⟩ := fl_read hC hb
    rw [sub_self_zero hr, Nat.sub_self]
    decide
  · obtain ⟨r, hr, hv⟩ := DV.sum (fl_at R (by omega)) (DV.opposite (fl_at C (by omega)))
    rw [show (R : Int) + -(C : Int) = ((R - C : Nat) : Int) by omega] at hv
    show ((double.read (fl R)).sum (double.read (fl C)).opposite).map double.write = _
    rw [hr]
    show some (double.write r) = _
    rw [write_fl hv (by omega) (by omega)]
theorem one_at : At 4607182418800017408 1 0 := by
  refine ⟨false, 4503599627370496, -52, by decide +kernel, -1074, by decide, by decide, ?_⟩
  unfold EqAt sg; decide +kernel
theorem one_mul_fl {R : Nat} (h0 : 0 < R) (hb : R < 1099511627776) : floatBits .mul .f64 4607182418800017408 (fl R) = some (fl R) := by
  obtain ⟨z, hz, hv⟩ := DV.product one_at (fl_at R (by omega))
  rw [Int.one_mul, Int.zero_add] at hv
  show ((double.read _).product (double.read (fl R))).map double.write = _
  rw [hz]
  show some (double.write z) = _
  rw [write_fl hv (by omega) (by omega)]
end Go.Proofs.YbulkasmaDoor.Fl
