/-
  LawS2197AModel: the walk, part B.
-/
import Derived.Test.YbulkasmaDoorModelWays
namespace Go.Proofs.YbulkasmaDoor.lawS2197AModel
open Go.ChangeShapes Go.WideShapes Go.ChangeAt Go.RowKit
open Fl
set_option linter.unusedVariables false

set_option maxRecDepth 100000 in
set_option maxHeartbeats 2000000 in
theorem far_feb_leap (a0 a1 d Y : Int) (j : Nat) (w : World) (r0 : -2147483648 ≤ a0) (r1 : a0 ≤ 2147483647) (u0 : 0 ≤ a1) (u1 : a1 ≤ 255) (hY : a0 + 1582 = Y) (hja : a1 % 12 = (j : Int)) (hj : j < 12) (hT : Tab w) (hd64 : -9223372036854775808 ≤ d ∧ d ≤ 9223372036854775807)
    (hl : leapB (2 * Y) = true) (hw : Ways Y (leapB (2 * Y))) (hy : (Y == 1582) = false) (hyn : ¬ Y = 1582) (hj1 : j = 1) (bj : ((j : Int) + 1 == 2) = true) (hd1 : 1 ≤ d) :
    Calls Ybad.prog 3 #[.int .i32 a0, .int .u8 a1, .int .i64 d] w fun e w' => e = .returned (.bool true) ∧ Below w.heap.size w w' := by
  have hfl : floatOfInt .f64 Y = fl (2 * Y) := ofInt_fl Y (by omega)
  have hX : (2 * Y).natAbs < 1099511627776 := by omega
  have hdb : dateB (2 * Y) j d = decide (d ≤ 29) := by
    unfold dateB lastI
    rw [if_neg (fun h => hyn (by omega)), if_pos ⟨hj1, hl⟩]; simp [hd1]
  have hda := date_any (2 * Y) hX j hj d (w.alloc comObj) (hT.alloc _)
  rw [hdb] at hda
  clear hdb hX hd64
  rw [hl] at hw
  clear hl hj1 hyn
  unfold Ways at hw
  simp only [Bool.true_eq_false, false_and, false_or, or_false, true_and] at hw
  rcases hw with ⟨b4, bl⟩ | ⟨b4, bl, b1⟩ | ⟨b4, bl, b1, b2⟩
  all_goals
    go_enter Ybad.func3, Ybad.ntmps3
    go_wp2_with (first
      | (go_at_call 5; refine (common_any j hj _).mono ?_; rintro e w' ⟨rfl, rfl⟩)
      | (go_at_call 6; refine hda.mono ?_; rintro e w' ⟨rfl, rfl⟩))
    go_ret
    exact ⟨by simp, (Below.refl _ _).alloc (Nat.le_refl _) _⟩

set_option maxRecDepth 100000 in
set_option maxHeartbeats 2000000 in
theorem far_feb_not (a0 a1 d Y : Int) (j : Nat) (w : World) (r0 : -2147483648 ≤ a0) (r1 : a0 ≤ 2147483647) (u0 : 0 ≤ a1) (u1 : a1 ≤ 255) (hY : a0 + 1582 = Y) (hja : a1 % 12 = (j : Int)) (hj : j < 12) (hT : Tab w) (hd64 : -9223372036854775808 ≤ d ∧ d ≤ 9223372036854775807)
    (hl : leapB (2 * Y) = false) (hw : Ways Y (leapB (2 * Y))) (hy : (Y == 1582) = false) (hyn : ¬ Y = 1582) (hj1 : j = 1) (bj : ((j : Int) + 1 == 2) = true) (hd1 : 1 ≤ d) :
    Calls Ybad.prog 3 #[.int .i32 a0, .int .u8 a1, .int .i64 d] w fun e w' => e = .returned (.bool true) ∧ Below w.heap.size w w' := by
  have hfl : floatOfInt .f64 Y = fl (2 * Y) := ofInt_fl Y (by omega)
  have hX : (2 * Y).natAbs < 1099511627776 := by omega
  have hdb : dateB (2 * Y) j d = decide (d ≤ mdays j) := by
    unfold dateB lastI
    rw [if_neg (fun h => hyn (by omega)), if_neg (fun h => by rw [hl] at h; exact Bool.noConfusion h.2)]; simp [hd1]
  have hda := date_any (2 * Y) hX j hj d (w.alloc comObj) (hT.alloc _)
  rw [hdb] at hda
  clear hdb hX hd64
  rw [hl] at hw
  clear hl hj1 hyn
  unfold Ways at hw
  simp only [Bool.false_eq_true, false_and, false_or, true_and] at hw
  rcases hw with b4 | ⟨b4, bl, b1, b2⟩
  all_goals
    go_enter Ybad.func3, Ybad.ntmps3
    go_wp2_with (first
      | (go_at_call 5; refine (common_any j hj _).mono ?_; rintro e w' ⟨rfl, rfl⟩)
      | (go_at_call 6; refine hda.mono ?_; rintro e w' ⟨rfl, rfl⟩))
    go_ret
    exact ⟨by simp, (Below.refl _ _).alloc (Nat.le_refl _) _⟩
end Go.Proofs.YbulkasmaDoor.lawS2197AModel
