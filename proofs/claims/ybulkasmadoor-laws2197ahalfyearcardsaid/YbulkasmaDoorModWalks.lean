/-
  math.Mod, and what it calls (IsInf, IsNaN, Abs, Frexp, Ldexp, normalize), on numbers that are whole numbers of halves.
-/
import Derived.Test.YbulkasmaDoorRows
import Derived.Test.YbulkasmaDoorHalf
import Derived.WalkKit
import Derived.ProofKit
import Derived.OpenShut
import Derived.Handy
import Derived.Deep.RegionWith
namespace Go.Proofs.YbulkasmaDoor
open Go.ChangeShapes Go.WideShapes Go.ChangeAt Go.RowKit
open Fl

theorem run_bits (x : Nat) (w : World) : (callFunc 19 #[.float .f64 x]).run Ybad.prog w = .ok (.value (.int .u64 x)) w := by
  rw [run_callFunc_extern (e := Extern.MathFloatBits.float64bits) Ybad.func19 (by kernel_rfl) (by kernel_rfl) (by kernel_rfl) (by kernel_rfl)]
  rfl
theorem run_frombits (n : Int) (w : World) : (callFunc 18 #[.int .u64 n]).run Ybad.prog w = .ok (.value (.float .f64 n.toNat)) w := by
  rw [run_callFunc_extern (e := Extern.MathFloatBits.float64frombits) Ybad.func18 (by kernel_rfl) (by kernel_rfl) (by kernel_rfl) (by kernel_rfl)]
  rfl
theorem abs_any (x : Nat) (w : World) :
    Calls Ybad.prog 15 #[.float .f64 x] w fun e w' => e = .returned (.float .f64 (absW x)) ∧ w' = w := by
  have h1 := run_bits
  have h2 := run_frombits
  go_enter Ybad.func15, Ybad.ntmps15
  go_wp2
  go_ret
  exact ⟨rfl, rfl⟩
theorem isInf_any (x : Nat) (w : World) :
    Calls Ybad.prog 12 #[.float .f64 x, .int .i64 0] w fun e w' => e = .returned (.bool (infB x)) ∧ w' = w := by
  go_enter Ybad.func12, Ybad.ntmps12
  go_wp2_with (go_at_call 15; refine (abs_any _ _).mono ?_; rintro e w' ⟨rfl, rfl⟩)
  go_ret
  exact ⟨rfl, rfl⟩
theorem isNaN_any (x : Nat) (w : World) :
    Calls Ybad.prog 13 #[.float .f64 x] w fun e w' => e = .returned (.bool (nanB x)) ∧ w' = w := by
  go_enter Ybad.func13, Ybad.ntmps13
  go_wp2
  go_ret
  exact ⟨rfl, rfl⟩

theorem ret_pair {k : IntKind} {x : Nat} {a b : Int} (h : a = b) : Ending.returned (.tuple #[.float .f64 x, .int k a]) = .returned (.tuple #[.float .f64 x, .int k b]) := by rw [h]

section
variable {R : Nat}
theorem normalize_fl (h0 : 0 < R) (hb : R < 1099511627776) (w : World) :
    Calls Ybad.prog 24 #[.float .f64 (fl R)] w fun e w' => e = .returned (.tuple #[.float .f64 (fl R), .int .i64 0]) ∧ w' = w := by
  have ha := absW_fl hb
  have hs := not_small h0 hb
  go_enter Ybad.func24, Ybad.ntmps24
  go_wp2_with (go_at_call 15; refine (abs_any _ _).mono ?_; rintro e w' ⟨rfl, rfl⟩; try rw [ha])
  go_ret2
  exact ⟨rfl, rfl⟩

theorem not_zero (h0 : 0 < R) (hb : R < 1099511627776) : (FloatKind.f64.format.order (fl R) 0 == some .eq) = false := by
  rw [order_at (fl_at R (by omega)) (zero_at (-1)), compare_gt (by omega)]; rfl

set_option maxRecDepth 100000 in
theorem frexp_in (h0 : 0 < R) (hb : R < 1099511627776) (w : World) :
    Calls Ybad.prog 21 #[.float .f64 (fl R)] w fun e w' => e = .returned (.tuple #[.float .f64 (frW R), .int .i64 (R.log2 : Int)]) ∧ w' = w := by
  have hz := not_zero h0 hb
  have hi := infB_of (absW_fl hb) hb
  have hn := nanB_of (fl_at R (by omega))
  have h1 := run_bits
  have h2 := run_frombits
  have hl := log2_le h0 hb
  have b1 := hi_bits h0 hb
  have b2 := and_mask h0 hb
  have b3 := lo_bits h0 hb
  have k := sigK_bounds h0 hb
  have b4 := or_exp (m := sigK R - 4503599627370496) (by omega) 1022 (by omega)
  rw [show ((1022 * 4503599627370496 : Nat) : Int) = 4602678819172646912 from rfl] at b4
  have b5 : 1022 * 4503599627370496 + (sigK R - 4503599627370496) = frW R := by unfold frW; omega
  rw [b5] at b4
  clear b5 k
  go_enter Ybad.func21, Ybad.ntmps21
  go_wp2_with (first
    | (go_at_call 12; refine (isInf_any _ _).mono ?_; rintro e w' ⟨rfl, rfl⟩; rw [hi])
    | (go_at_call 13; refine (isNaN_any _ _).mono ?_; rintro e w' ⟨rfl, rfl⟩; rw [hn])
    | (go_at_call 24; refine (normalize_fl h0 hb _).mono ?_; rintro e w' ⟨rfl, rfl⟩))
  go_ret2
  exact ⟨ret_pair (by omega), rfl⟩
theorem frexp_fl (h0 : 0 < R) (hb : R < 1099511627776) (w : World) :
    Calls Ybad.prog 16 #[.float .f64 (fl R)] w fun e w' => e = .returned (.tuple #[.float .f64 (frW R), .int .i64 (R.log2 : Int)]) ∧ w' = w := by
  go_enter Ybad.func16, Ybad.ntmps16
  go_wp2_with (go_at_call 21; refine (frexp_in h0 hb _).mono ?_; rintro e w' ⟨rfl, rfl⟩)
  go_ret2
  exact ⟨rfl, rfl⟩

set_option maxRecDepth 100000 in
theorem ldexp_in (h0 : 0 < R) (n : Nat) (hb : R * 2 ^ n < 1099511627776) (w : World) :
    Calls Ybad.prog 23 #[.float .f64 (fl R), .int .i64 (n : Int)] w fun e w' => e = .returned (.float .f64 (fl ((R * 2 ^ n : Nat) : Int))) ∧ w' = w := by
  have hR : R < 1099511627776 := Nat.lt_of_le_of_lt (Nat.le_mul_of_pos_right _ (Nat.two_pow_pos _)) hb
  have hp : 0 < R * 2 ^ n := Nat.mul_pos h0 (Nat.two_pow_pos _)
  have hz := not_zero h0 hR
  have hi := infB_of (absW_fl hR) hR
  have hn := nanB_of (fl_at R (by omega))
  have h1 := run_bits
  have h2 := run_frombits
  have hl := log2_le hp hb
  rw [log2_shift (Nat.ne_of_gt h0)] at hl
  have b1 := hi_bits h0 hR
  have b2 := and_mask_i h0 hR
  have b3 := lo_bits h0 hR
  have k := sigK_bounds h0 hR
  have b4 : bits .or .u64 ((sigK R - 4503599627370496 : Nat) : Int) (((n : Int) + ((R.log2 : Int) + 1022 - 1023) + 1023) * 4503599627370496) = (fl ((R * 2 ^ n : Nat) : Int) : Int) := by
    have := or_exp (m := sigK R - 4503599627370496) (by omega) (n + R.log2 + 1022) (by omega)
    rw [← fl_shift h0 hb] at this
    rw [← this]
    congr 1
    omega
  have r5 : ∀ w : World, (binOp .mul 24 (.float .f64 4607182418800017408) (.float .f64 (fl ((R * 2 ^ n : Nat) : Int)))).run Ybad.prog w = .ok (.float .f64 (fl ((R * 2 ^ n : Nat) : Int))) w := fun w => run_float_arith w .mul 24 .f64 _ _ _ (one_mul_fl hp hb)
  have d1 : decide ((n : Int) + ((R.log2 : Int) + 1022 - 1023) < -1075) = false := by simp; omega
  have d2 : decide (1023 < (n : Int) + ((R.log2 : Int) + 1022 - 1023)) = false := by simp; omega
  have d3 : decide ((n : Int) + ((R.log2 : Int) + 1022 - 1023) < -1022) = false := by simp; omega
  generalize fl ((R * 2 ^ n : Nat) : Int) = out at *
  clear k
  go_enter Ybad.func23, Ybad.ntmps23
  go_wp2_with (first
    | (go_at_call 12; refine (isInf_any _ _).mono ?_; rintro e w' ⟨rfl, rfl⟩; rw [hi])
    | (go_at_call 13; refine (isNaN_any _ _).mono ?_; rintro e w' ⟨rfl, rfl⟩; rw [hn])
    | (go_at_call 24; refine (normalize_fl h0 hR _).mono ?_; rintro e w' ⟨rfl, rfl⟩))
  go_ret
  exact ⟨rfl, rfl⟩
theorem ldexp_fl (h0 : 0 < R) (n : Nat) (hb : R * 2 ^ n < 1099511627776) (w : World) :
    Calls Ybad.prog 17 #[.float .f64 (fl R), .int .i64 (n : Int)] w fun e w' => e = .returned (.float .f64 (fl ((R * 2 ^ n : Nat) : Int))) ∧ w' = w := by
  go_enter Ybad.func17, Ybad.ntmps17
  go_wp2_with (go_at_call 23; refine (ldexp_in h0 n hb _).mono ?_; rintro e w' ⟨rfl, rfl⟩)
  go_ret
  exact ⟨rfl, rfl⟩
end

/-- A float's word, for the measure. -/
def wordOf : Value → Nat | .float _ x => x | _ => 0

theorem geq_true {R B : Nat} (h : B ≤ R) (hb : R < 1099511627776) : (FloatKind.f64.format.order (fl R) (fl B) == some .gt || FloatKind.f64.format.order (fl R) (fl B) == some .eq) = true := by
  rw [order_at (fl_at R (by omega)) (fl_at B (by omega))]
  by_cases he : R = B
  · subst he; rw [compare_eq]; rfl
  · rw [compare_gt (by omega)]; rfl
theorem geq_false {R B : Nat} (h : R < B) (hb : B < 1099511627776) : (FloatKind.f64.format.order (fl R) (fl B) == some .gt || FloatKind.f64.format.order (fl R) (fl B) == some .eq) = false := by
  rw [order_at (fl_at R (by omega)) (fl_at B (by omega)), compare_lt (by omega)]; rfl
theorem frac_lt {R B : Nat} (hR : 0 < R) (hB : 0 < B) (h1 : R < 1099511627776) (h2 : B < 1099511627776) (h : sigK R < sigK B) : (FloatKind.f64.format.order (frW R) (frW B) == some .lt) = true := by
  rw [order_at (frW_at hR h1) (frW_at hB h2), compare_lt (by omega)]; rfl
theorem frac_ge {R B : Nat} (hR : 0 < R) (hB : 0 < B) (h1 : R < 1099511627776) (h2 : B < 1099511627776) (h : sigK B ≤ sigK R) : (FloatKind.f64.format.order (frW R) (frW B) == some .lt) = false := by
  rw [order_at (frW_at hR h1) (frW_at hB h2)]
  by_cases he : sigK B = sigK R
  · rw [he, compare_eq]; rfl
  · rw [compare_gt (by omega)]; rfl
theorem lss_zero (X : Int) (hb : X.natAbs < 1099511627776) : (FloatKind.f64.format.order (fl X) 0 == some .lt) = decide (X < 0) := by
  rw [order_at (fl_at X (by omega)) (zero_at (-1))]
  by_cases h : X < 0
  · rw [compare_lt h]; simp [h]
  · by_cases h' : X = 0
    · subst h'; rw [compare_eq]; rfl
    · rw [compare_gt (by omega)]; simp [h]

set_option maxRecDepth 100000 in
set_option maxHeartbeats 1000000 in
theorem mod_pos (X B : Nat) (hB : 0 < B) (hB2 : B < 1099511627776) (hX : X < 1099511627776) (w : World) :
    Calls Ybad.prog 11 #[.float .f64 (fl X), .float .f64 (fl B)] w fun e w' => e = .returned (.float .f64 (fl ((X % B : Nat) : Int))) ∧ w' = w := by
  have hz := not_zero hB hB2
  have hi := infB_of (absW_fl hX) hX
  have hn := nanB_of (fl_at ((X : Int)) (by omega))
  have hnB := nanB_of (fl_at (B : Int) (by omega))
  have ha := absW_fl hB2
  have hlt := lss_zero ((X : Int)) (by omega)
  rw [show decide ((X : Int) < 0) = false by simp] at hlt
  go_enter Ybad.func11, Ybad.ntmps11
  go_wp2_with (first
    | (go_at_call 12; refine (isInf_any _ _).mono ?_; rintro e w' ⟨rfl, rfl⟩; rw [hi])
    | (go_at_call_of 13 (fl ((X : Int))); refine (isNaN_any _ _).mono ?_; rintro e w' ⟨rfl, rfl⟩; rw [hn])
    | (go_at_call_of 13 (fl (B : Int)); refine (isNaN_any _ _).mono ?_; rintro e w' ⟨rfl, rfl⟩; rw [hnB])
    | (go_at_call 15; refine (abs_any _ _).mono ?_; rintro e w' ⟨rfl, rfl⟩; rw [ha])
    | (go_at_call 16; refine (frexp_fl hB hB2 _).mono ?_; rintro e w' ⟨rfl, rfl⟩))
  go_loop [7] (fun r => ∃ R : Nat, r = .float .f64 (fl R) ∧ R ≤ X ∧ R % B = X % B) (fun r => wordOf r)
  case atStart => exact ⟨X, rfl, Nat.le_refl _, rfl⟩
  case round =>
    obtain ⟨R, rfl, hRX, hRm⟩ := hrel
    have HRm : Hid (R % B = X % B) := hRm
    clear hRm hi hn hnB ha hz
    by_cases hge : B ≤ R
    · have hR0 : 0 < R := by omega
      have hR2 : R < 1099511627776 := by omega
      have hog := geq_true hge hR2
      by_cases hk : sigK R < sigK B
      · obtain ⟨hl1, hl2⟩ := step_lt hB hge hR2 hk
        have hfr := frac_lt hR0 hB hR2 hB2 hk
        have hlR := log2_le hR0 hR2
        have hCp : 0 < B * 2 ^ (R.log2 - 1 - B.log2) := Nat.mul_pos hB (Nat.two_pow_pos _)
        have hsub : ∀ w : World, (binOp .sub 24 (.float .f64 (fl R)) (.float .f64 (fl ((B * 2 ^ (R.log2 - 1 - B.log2) : Nat) : Int)))).run Ybad.prog w = .ok (.float .f64 (fl ((R - B * 2 ^ (R.log2 - 1 - B.log2) : Nat) : Int))) w := fun w => run_float_arith w .sub 24 .f64 _ _ _ (sub_fl hCp hl2 hR2)
        have hmod : (R - B * 2 ^ (R.log2 - 1 - B.log2)) % B = X % B := by rw [Nat.sub_mul_mod hl2]; exact HRm.out
        have hCb : B * 2 ^ (R.log2 - 1 - B.log2) < 1099511627776 := by omega
        have hld := ldexp_fl hB (R.log2 - 1 - B.log2) hCb
        have Hle : R - B * 2 ^ (R.log2 - 1 - B.log2) < R := by omega
        generalize B * 2 ^ (R.log2 - 1 - B.log2) = C at *
        have Hmod : Hid ((R - C) % B = X % B) := hmod
        have HL : Hid (∀ w : World, Calls Ybad.prog 17 #[.float .f64 (fl B), .int .i64 ((R.log2 - 1 - B.log2 : Nat) : Int)] w fun e w' => e = .returned (.float .f64 (fl (C : Int))) ∧ w' = w) := hld
        clear hmod hld hl2 hk hCb hCp
        go_wp2_with fail
        refine (frexp_fl hR0 hR2 _).mono ?_
        rintro e w' ⟨rfl, rfl⟩
        go_wp2_with fail
        rw [show ((R.log2 : Int) - 1 - (B.log2 : Int)) = ((R.log2 - 1 - B.log2 : Nat) : Int) by omega]
        refine (HL.out _).mono ?_
        rintro e w' ⟨rfl, rfl⟩
        go_wp2_with fail
        go_round
        case rel => exact ⟨R - C, rfl, by omega, Hmod.out⟩
        case measure => exact fl_mono Hle hR2
      · have hk' : sigK B ≤ sigK R := by omega
        obtain ⟨hl1, hl2⟩ := step_ge hB hge hR2 hk'
        have hfr := frac_ge hR0 hB hR2 hB2 hk'
        have hlR := log2_le hR0 hR2
        have hCp : 0 < B * 2 ^ (R.log2 - B.log2) := Nat.mul_pos hB (Nat.two_pow_pos _)
        have hsub : ∀ w : World, (binOp .sub 24 (.float .f64 (fl R)) (.float .f64 (fl ((B * 2 ^ (R.log2 - B.log2) : Nat) : Int)))).run Ybad.prog w = .ok (.float .f64 (fl ((R - B * 2 ^ (R.log2 - B.log2) : Nat) : Int))) w := fun w => run_float_arith w .sub 24 .f64 _ _ _ (sub_fl hCp hl2 hR2)
        have hmod : (R - B * 2 ^ (R.log2 - B.log2)) % B = X % B := by rw [Nat.sub_mul_mod hl2]; exact HRm.out
        have hCb : B * 2 ^ (R.log2 - B.log2) < 1099511627776 := by omega
        have hld := ldexp_fl hB (R.log2 - B.log2) hCb
        have Hle : R - B * 2 ^ (R.log2 - B.log2) < R := by omega
        generalize B * 2 ^ (R.log2 - B.log2) = C at *
        have Hmod : Hid ((R - C) % B = X % B) := hmod
        have HL : Hid (∀ w : World, Calls Ybad.prog 17 #[.float .f64 (fl B), .int .i64 ((R.log2 - B.log2 : Nat) : Int)] w fun e w' => e = .returned (.float .f64 (fl (C : Int))) ∧ w' = w) := hld
        clear hmod hld hl2 hk hk' hCb hCp
        go_wp2_with fail
        refine (frexp_fl hR0 hR2 _).mono ?_
        rintro e w' ⟨rfl, rfl⟩
        go_wp2_with fail
        rw [show ((R.log2 : Int) - (B.log2 : Int)) = ((R.log2 - B.log2 : Nat) : Int) by omega]
        refine (HL.out _).mono ?_
        rintro e w' ⟨rfl, rfl⟩
        go_wp2_with fail
        go_round
        case rel => exact ⟨R - C, rfl, by omega, Hmod.out⟩
        case measure => exact fl_mono Hle hR2
    · have hlt' : R < B := by omega
      have hog := geq_false hlt' hB2
      have hend : R = X % B := by rw [← HRm.out, Nat.mod_eq_of_lt hlt']
      have HE : Hid (R = X % B) := hend
      clear hend HRm
      go_wp2_with fail
      go_ret
      exact ⟨by rw [← Int.natCast_emod, ← HE.out]; rfl, rfl⟩

set_option maxRecDepth 100000 in
set_option maxHeartbeats 1000000 in
theorem mod_neg (X B : Nat) (hX0 : 0 < X) (hB : 0 < B) (hB2 : B < 1099511627776) (hX : X < 1099511627776) (w : World) :
    Calls Ybad.prog 11 #[.float .f64 (fl (-(X : Int))), .float .f64 (fl B)] w fun e w' => e = .returned (.float .f64 (Op.negFloat .f64 (fl ((X % B : Nat) : Int)))) ∧ w' = w := by
  have hz := not_zero hB hB2
  have hi := infB_of (absW_fl_neg hX0 hX) hX
  have hn := nanB_of (fl_at (-(X : Int)) (by omega))
  have hnB := nanB_of (fl_at (B : Int) (by omega))
  have ha := absW_fl hB2
  have hlt := lss_zero (-(X : Int)) (by omega)
  rw [show decide (-(X : Int) < 0) = true by simp; omega] at hlt
  have hng : ∀ w : World, (Op.unary .neg (.float .f64 (fl (-(X : Int))))).run Ybad.prog w = .ok (.float .f64 (fl X)) w := fun w => by
    rw [← neg_fl_neg hX0 hX]; rfl
  have hng2 : ∀ (x : Nat) (w : World), (Op.unary .neg (.float .f64 x)).run Ybad.prog w = .ok (.float .f64 (Op.negFloat .f64 x)) w := fun x w => rfl
  go_enter Ybad.func11, Ybad.ntmps11
  go_wp2_with (first
    | (go_at_call 12; refine (isInf_any _ _).mono ?_; rintro e w' ⟨rfl, rfl⟩; rw [hi])
    | (go_at_call_of 13 (fl (-(X : Int))); refine (isNaN_any _ _).mono ?_; rintro e w' ⟨rfl, rfl⟩; rw [hn])
    | (go_at_call_of 13 (fl (B : Int)); refine (isNaN_any _ _).mono ?_; rintro e w' ⟨rfl, rfl⟩; rw [hnB])
    | (go_at_call 15; refine (abs_any _ _).mono ?_; rintro e w' ⟨rfl, rfl⟩; rw [ha])
    | (go_at_call 16; refine (frexp_fl hB hB2 _).mono ?_; rintro e w' ⟨rfl, rfl⟩))
  go_loop [7] (fun r => ∃ R : Nat, r = .float .f64 (fl R) ∧ R ≤ X ∧ R % B = X % B) (fun r => wordOf r)
  case atStart => exact ⟨X, rfl, Nat.le_refl _, rfl⟩
  case round =>
    obtain ⟨R, rfl, hRX, hRm⟩ := hrel
    have HRm : Hid (R % B = X % B) := hRm
    clear hRm hi hn hnB ha hz
    by_cases hge : B ≤ R
    · have hR0 : 0 < R := by omega
      have hR2 : R < 1099511627776 := by omega
      have hog := geq_true hge hR2
      by_cases hk : sigK R < sigK B
      · obtain ⟨hl1, hl2⟩ := step_lt hB hge hR2 hk
        have hfr := frac_lt hR0 hB hR2 hB2 hk
        have hlR := log2_le hR0 hR2
        have hCp : 0 < B * 2 ^ (R.log2 - 1 - B.log2) := Nat.mul_pos hB (Nat.two_pow_pos _)
        have hsub : ∀ w : World, (binOp .sub 24 (.float .f64 (fl R)) (.float .f64 (fl ((B * 2 ^ (R.log2 - 1 - B.log2) : Nat) : Int)))).run Ybad.prog w = .ok (.float .f64 (fl ((R - B * 2 ^ (R.log2 - 1 - B.log2) : Nat) : Int))) w := fun w => run_float_arith w .sub 24 .f64 _ _ _ (sub_fl hCp hl2 hR2)
        have hmod : (R - B * 2 ^ (R.log2 - 1 - B.log2)) % B = X % B := by rw [Nat.sub_mul_mod hl2]; exact HRm.out
        have hCb : B * 2 ^ (R.log2 - 1 - B.log2) < 1099511627776 := by omega
        have hld := ldexp_fl hB (R.log2 - 1 - B.log2) hCb
        have Hle : R - B * 2 ^ (R.log2 - 1 - B.log2) < R := by omega
        generalize B * 2 ^ (R.log2 - 1 - B.log2) = C at *
        have Hmod : Hid ((R - C) % B = X % B) := hmod
        have HL : Hid (∀ w : World, Calls Ybad.prog 17 #[.float .f64 (fl B), .int .i64 ((R.log2 - 1 - B.log2 : Nat) : Int)] w fun e w' => e = .returned (.float .f64 (fl (C : Int))) ∧ w' = w) := hld
        clear hmod hld hl2 hk hCb hCp
        go_wp2_with fail
        refine (frexp_fl hR0 hR2 _).mono ?_
        rintro e w' ⟨rfl, rfl⟩
        go_wp2_with fail
        rw [show ((R.log2 : Int) - 1 - (B.log2 : Int)) = ((R.log2 - 1 - B.log2 : Nat) : Int) by omega]
        refine (HL.out _).mono ?_
        rintro e w' ⟨rfl, rfl⟩
        go_wp2_with fail
        go_round
        case rel => exact ⟨R - C, rfl, by omega, Hmod.out⟩
        case measure => exact fl_mono Hle hR2
      · have hk' : sigK B ≤ sigK R := by omega
        obtain ⟨hl1, hl2⟩ := step_ge hB hge hR2 hk'
        have hfr := frac_ge hR0 hB hR2 hB2 hk'
        have hlR := log2_le hR0 hR2
        have hCp : 0 < B * 2 ^ (R.log2 - B.log2) := Nat.mul_pos hB (Nat.two_pow_pos _)
        have hsub : ∀ w : World, (binOp .sub 24 (.float .f64 (fl R)) (.float .f64 (fl ((B * 2 ^ (R.log2 - B.log2) : Nat) : Int)))).run Ybad.prog w = .ok (.float .f64 (fl ((R - B * 2 ^ (R.log2 - B.log2) : Nat) : Int))) w := fun w => run_float_arith w .sub 24 .f64 _ _ _ (sub_fl hCp hl2 hR2)
        have hmod : (R - B * 2 ^ (R.log2 - B.log2)) % B = X % B := by rw [Nat.sub_mul_mod hl2]; exact HRm.out
        have hCb : B * 2 ^ (R.log2 - B.log2) < 1099511627776 := by omega
        have hld := ldexp_fl hB (R.log2 - B.log2) hCb
        have Hle : R - B * 2 ^ (R.log2 - B.log2) < R := by omega
        generalize B * 2 ^ (R.log2 - B.log2) = C at *
        have Hmod : Hid ((R - C) % B = X % B) := hmod
        have HL : Hid (∀ w : World, Calls Ybad.prog 17 #[.float .f64 (fl B), .int .i64 ((R.log2 - B.log2 : Nat) : Int)] w fun e w' => e = .returned (.float .f64 (fl (C : Int))) ∧ w' = w) := hld
        clear hmod hld hl2 hk hk' hCb hCp
        go_wp2_with fail
        refine (frexp_fl hR0 hR2 _).mono ?_
        rintro e w' ⟨rfl, rfl⟩
        go_wp2_with fail
        rw [show ((R.log2 : Int) - (B.log2 : Int)) = ((R.log2 - B.log2 : Nat) : Int) by omega]
        refine (HL.out _).mono ?_
        rintro e w' ⟨rfl, rfl⟩
        go_wp2_with fail
        go_round
        case rel => exact ⟨R - C, rfl, by omega, Hmod.out⟩
        case measure => exact fl_mono Hle hR2
    · have hlt' : R < B := by omega
      have hog := geq_false hlt' hB2
      have hend : R = X % B := by rw [← HRm.out, Nat.mod_eq_of_lt hlt']
      have HE : Hid (R = X % B) := hend
      clear hend HRm
      go_wp2_with fail
      go_ret
      exact ⟨by rw [← Int.natCast_emod, ← HE.out]; rfl, rfl⟩

/-- math.Mod on halves: x = X / 2, y = B / 2. -/
theorem mod_any (X : Int) (B : Nat) (hB : 0 < B) (hB2 : B < 1099511627776) (hX : X.natAbs < 1099511627776) :
    ∃ z, At z (X.tmod B) (-1) ∧ ∀ w : World, Calls Ybad.prog 9 #[.float .f64 (fl X), .float .f64 (fl B)] w fun e w' => e = .returned (.float .f64 z) ∧ w' = w := by
  have hm : X.natAbs % B < B := Nat.mod_lt _ hB
  by_cases h : X < 0
  · obtain ⟨n, rfl⟩ : ∃ n : Nat, X = -(n : Int) := ⟨X.natAbs, by omega⟩
    rw [Int.natAbs_neg, Int.natAbs_natCast] at hX hm
    have hn0 : 0 < n := by omega
    refine ⟨Op.negFloat .f64 (fl ((n % B : Nat) : Int)), ?_, fun w => ?_⟩
    · rw [Int.neg_tmod, ← Int.ofNat_tmod]
      by_cases h0 : n % B = 0
      · rw [h0]
        have : Op.negFloat .f64 (fl ((0 : Nat) : Int)) = 9223372036854775808 := by decide
        rw [this]
        unfold At
        rw [show Ieee.double.read 9223372036854775808 = .number true 0 (-1074) by decide +kernel]
        exact DV.zero _ _ _
      · rw [neg_fl_pos (by omega) (by omega)]
        exact fl_at _ (by omega)
    · go_enter Ybad.func9, Ybad.ntmps9
      go_wp2_with (go_at_call 11; refine (mod_neg n B hn0 hB hB2 hX _).mono ?_; rintro e w' ⟨rfl, rfl⟩)
      go_ret
      exact ⟨rfl, rfl⟩
  · obtain ⟨n, rfl⟩ : ∃ n : Nat, X = n := ⟨X.toNat, by omega⟩
    rw [Int.natAbs_natCast] at hX hm
    refine ⟨fl ((n % B : Nat) : Int), ?_, fun w => ?_⟩
    · rw [← Int.ofNat_tmod]
      exact fl_at _ (by omega)
    · go_enter Ybad.func9, Ybad.ntmps9
      go_wp2_with (go_at_call 11; refine (mod_pos n B hB hB2 hX _).mono ?_; rintro e w' ⟨rfl, rfl⟩)
      go_ret
      exact ⟨rfl, rfl⟩
end Go.Proofs.YbulkasmaDoor
