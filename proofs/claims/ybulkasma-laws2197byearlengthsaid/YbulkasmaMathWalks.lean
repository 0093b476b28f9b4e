/-
  math.Floor, math.IsNaN, math.IsInf, math.Abs: what a call of each gives.
-/
import Derived.Test.YbulkasmaRows
import Derived.Test.YbulkasmaFloatOps
import Derived.WalkKit
import Derived.ProofKit
import Derived.OpenShut
import Derived.Handy
import Derived.Deep.QuietTactic
import Derived.BigQuiet
namespace Go.Proofs.Ybulkasma
open Go.ChangeShapes Go.WideShapes Go.ChangeAt Go.RowKit
open Fl
theorem floor_body (x : Nat) (neg : Bool) (m : Nat) (p : Int) (hd : FloatKind.f64.decode x = .number neg m p) : Extern.MathFloor.toIntegral "math.archFloor" .down #[.float .f64 x] = pure (.float .f64 (floorWord x)) := by
  unfold floorWord
  delta Extern.MathFloor.toIntegral
  conv => lhs; whnf
  simp only [hd]
theorem run_archFloor {x : Nat} {n q : Int} (h : At x n q) (w : World) : (callFunc 20 #[.float .f64 x]).run Yba.prog w = .ok (.value (.float .f64 (floorWord x))) w := by
  rw [run_callFunc_extern (e := Extern.MathFloor.toIntegral "math.archFloor" .down) Yba.func20 (by kernel_rfl) (by kernel_rfl) (by kernel_rfl) (by kernel_rfl)]
  obtain ⟨neg, m, p, hd⟩ := h.notNaN
  rw [floor_body x neg m p hd]
  simp [Result.andThen]

theorem floor_any {x : Nat} {n q : Int} (h : At x n q) (w : World) :
    Calls Yba.prog 14 #[.float .f64 x] w fun e w' => e = .returned (.float .f64 (floorWord x)) ∧ w' = w := by
  have hf := run_archFloor h
  clear h
  go_enter Yba.func14, Yba.ntmps14
  go_wp2
  go_ret
  exact ⟨rfl, rfl⟩

/-- What math.IsNaN answers. -/
def nanB (x : Nat) : Bool := FloatKind.f64.format.order x x != some .eq
theorem isNaN_any (x : Nat) (w : World) :
    Calls Yba.prog 12 #[.float .f64 x] w fun e w' => e = .returned (.bool (nanB x)) ∧ w' = w := by
  go_enter Yba.func12, Yba.ntmps12
  go_wp2
  go_ret
  exact ⟨rfl, rfl⟩

theorem run_bits (x : Nat) (w : World) : (callFunc 19 #[.float .f64 x]).run Yba.prog w = .ok (.value (.int .u64 x)) w := by
  rw [run_callFunc_extern (e := Extern.MathFloatBits.float64bits) Yba.func19 (by kernel_rfl) (by kernel_rfl) (by kernel_rfl) (by kernel_rfl)]
  rfl
theorem run_frombits (n : Int) (w : World) : (callFunc 18 #[.int .u64 n]).run Yba.prog w = .ok (.value (.float .f64 n.toNat)) w := by
  rw [run_callFunc_extern (e := Extern.MathFloatBits.float64frombits) Yba.func18 (by kernel_rfl) (by kernel_rfl) (by kernel_rfl) (by kernel_rfl)]
  rfl
/-- What math.Abs gives. -/
def absW (x : Nat) : Nat := (bits .andNot .u64 x 9223372036854775808).toNat
theorem abs_any (x : Nat) (w : World) :
    Calls Yba.prog 13 #[.float .f64 x] w fun e w' => e = .returned (.float .f64 (absW x)) ∧ w' = w := by
  have h1 := run_bits
  have h2 := run_frombits
  go_enter Yba.func13, Yba.ntmps13
  go_wp2
  go_ret
  exact ⟨rfl, rfl⟩
/-- What math.IsInf of either sign answers. -/
def infB (x : Nat) : Bool := FloatKind.f64.format.order (absW x) 9218868437227405311 == some .gt
theorem isInf_any (x : Nat) (w : World) :
    Calls Yba.prog 17 #[.float .f64 x, .int .i64 0] w fun e w' => e = .returned (.bool (infB x)) ∧ w' = w := by
  go_enter Yba.func17, Yba.ntmps17
  go_wp2_with (go_at_call 13; refine (abs_any _ _).mono ?_; rintro e w' ⟨rfl, rfl⟩)
  go_ret
  exact ⟨rfl, rfl⟩

/-- A word that stands for a number. -/
def Fin (x : Nat) : Prop := ∃ neg m p, Ieee.double.read x = .number neg m p

/-- What zzs2197cpad lays for x. -/
def padW (x : Nat) : Nat := if (nanB x || infB x) = true then 0 else x
theorem fin_zero : Fin 0 := ⟨false, 0, -1074, by decide⟩
theorem infB_pos : infB 9218868437227405312 = true := by kernel_rfl
theorem infB_neg : infB 18442240474082181120 = true := by kernel_rfl
theorem padW_fin (x : Nat) (hx : x < 18446744073709551616) : Fin (padW x) := by
  unfold padW
  by_cases h : (nanB x || infB x) = true
  · rw [if_pos h]; exact fin_zero
  · rw [if_neg h]
    simp only [Bool.or_eq_true, not_or, Bool.not_eq_true] at h
    cases hr : Ieee.double.read x with
    | number neg m p => exact ⟨neg, m, p, hr⟩
    | nan s t =>
      have : FloatKind.f64.format.order x x = none := by
        show (Ieee.double.read x).order (Ieee.double.read x) = none
        rw [hr]; rfl
      simp [nanB, this] at h
    | infinity s =>
      have hx' : x = 9218868437227405312 ∨ x = 18442240474082181120 := by
        unfold Ieee.Format.read at hr
        simp only [sign_weight, binade52, inf_rung, least] at hr
        split at hr
        · cases hr
        · split at hr
          · cases hr
          · split at hr
            · omega
            · cases hr
      rcases hx' with rfl | rfl
      · rw [infB_pos] at h; simp at h
      · rw [infB_neg] at h; simp at h
end Go.Proofs.Ybulkasma
