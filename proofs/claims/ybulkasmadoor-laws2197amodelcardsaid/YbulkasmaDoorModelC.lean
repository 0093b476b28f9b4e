/-
  LawS2197AModel: the walk, part C.
-/
import Derived.Test.YbulkasmaDoorModelWays
namespace Go.Proofs.YbulkasmaDoor.lawS2197AModel
open Go.ChangeShapes Go.WideShapes Go.ChangeAt Go.RowKit
open Fl
set_option linter.unusedVariables false

set_option maxRecDepth 100000 in
set_option maxHeartbeats 2000000 in
theorem no_day_feb (a0 a1 d Y : Int) (j : Nat) (w : World) (r0 : -2147483648 ≤ a0) (r1 : a0 ≤ 2147483647) (u0 : 0 ≤ a1) (u1 : a1 ≤ 255) (hY : a0 + 1582 = Y) (hja : a1 % 12 = (j : Int)) (hj : j < 12) (hT : Tab w) (hd64 : -9223372036854775808 ≤ d ∧ d ≤ 9223372036854775807)
    (hw : Ways Y (leapB (2 * Y))) (hy : (Y == 1582) = false) (hd1 : d < 1) (bj : ((j : Int) + 1 == 2) = true) :
    Calls Ybad.prog 3 #[.int .i32 a0, .int .u8 a1, .int .i64 d] w fun e w' => e = .returned (.bool true) ∧ Below w.heap.size w w' := by
  have hfl : floatOfInt .f64 Y = fl (2 * Y) := ofInt_fl Y (by omega)
  have hX : (2 * Y).natAbs < 1099511627776 := by omega
  have hdb : dateB (2 * Y) j d = false := by
    unfold dateB lastI
    have h1 : decide (1 ≤ d) = false := by simp; omega
    rw [h1]; split <;> simp
  have hda := date_any (2 * Y) hX j hj d (w.alloc comObj) (hT.alloc _)
  rw [hdb] at hda
  clear hdb hX hd64
  unfold Ways at hw
  rcases hw with ⟨_, b4⟩ | ⟨_, b4, bl⟩ | ⟨_, b4, bl, b1⟩ | ⟨_, b4, bl, b1, b2⟩ | ⟨_, b4, bl, b1, b2⟩
  all_goals
    go_enter Ybad.func3, Ybad.ntmps3
    go_wp2_with (first
      | (go_at_call 5; refine (common_any j hj _).mono ?_; rintro e w' ⟨rfl, rfl⟩)
      | (go_at_call 6; refine hda.mono ?_; rintro e w' ⟨rfl, rfl⟩))
    go_ret
    exact ⟨by simp, (Below.refl _ _).alloc (Nat.le_refl _) _⟩

set_option maxRecDepth 100000 in
set_option maxHeartbeats 2000000 in
theorem no_day_rest (a0 a1 d Y : Int) (j : Nat) (w : World) (r0 : -2147483648 ≤ a0) (r1 : a0 ≤ 2147483647) (u0 : 0 ≤ a1) (u1 : a1 ≤ 255) (hY : a0 + 1582 = Y) (hja : a1 % 12 = (j : Int)) (hj : j < 12) (hT : Tab w) (hd64 : -9223372036854775808 ≤ d ∧ d ≤ 9223372036854775807)
    (hw : Ways Y (leapB (2 * Y))) (hy : (Y == 1582) = false) (hd1 : d < 1) (bj : ((j : Int) + 1 == 2) = false) :
    Calls Ybad.prog 3 #[.int .i32 a0, .int .u8 a1, .int .i64 d] w fun e w' => e = .returned (.bool true) ∧ Below w.heap.size w w' := by
  have hfl : floatOfInt .f64 Y = fl (2 * Y) := ofInt_fl Y (by omega)
  have hX : (2 * Y).natAbs < 1099511627776 := by omega
  have hdb : dateB (2 * Y) j d = false := by
    unfold dateB lastI
    have h1 : decide (1 ≤ d) = false := by simp; omega
    rw [h1]; split <;> simp
  have hda := date_any (2 * Y) hX j hj d (w.alloc comObj) (hT.alloc _)
  rw [hdb] at hda
  clear hdb hX hd64
  unfold Ways at hw
  rcases hw with ⟨_, b4⟩ | ⟨_, b4, bl⟩ | ⟨_, b4, bl, b1⟩ | ⟨_, b4, bl, b1, b2⟩ | ⟨_, b4, bl, b1, b2⟩
  all_goals
    go_enter Ybad.func3, Ybad.ntmps3
    go_wp2_with (first
      | (go_at_call 5; refine (common_any j hj _).mono ?_; rintro e w' ⟨rfl, rfl⟩)
      | (go_at_call 6; refine hda.mono ?_; rintro e w' ⟨rfl, rfl⟩))
    go_ret
    exact ⟨by simp, (Below.refl _ _).alloc (Nat.le_refl _) _⟩
end Go.Proofs.YbulkasmaDoor.lawS2197AModel
