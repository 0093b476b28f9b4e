/-
  LawS2197AModel: the walk, part E.
-/
import Derived.Test.YbulkasmaDoorModelA
import Derived.Test.YbulkasmaDoorModelB
import Derived.Test.YbulkasmaDoorModelC
import Derived.Test.YbulkasmaDoorModelD
namespace Go.Proofs.YbulkasmaDoor.lawS2197AModel
open Go.ChangeShapes Go.WideShapes Go.ChangeAt Go.RowKit
open Fl
set_option linter.unusedVariables false

/-- THE WALK: the ways joined. -/
theorem walk (a0 a1 d : Int) (w0 : (Lit.int .i32 a0).wf = true) (w1 : (Lit.int .u8 a1).wf = true) (w2 : (Lit.int .i64 d).wf = true) (w : World) (hT : Tab w) :
    Calls Ybad.prog 3 #[.int .i32 a0, .int .u8 a1, .int .i64 d] w fun e w' => e = .returned (.bool true) ∧ Below w.heap.size w w' := by
  obtain ⟨r0, r1⟩ := bounds_i32 w0
  obtain ⟨u0, u1⟩ := bounds_u8 w1
  have hd64 := bounds_i64 w2
  obtain ⟨j, hja, hj⟩ : ∃ j : Nat, a1 % 12 = (j : Int) ∧ j < 12 := ⟨(a1 % 12).toNat, by omega, by omega⟩
  generalize hY : a0 + 1582 = Y
  have hw := ways Y
  by_cases hd1 : 1 ≤ d
  · by_cases hyn : Y = 1582
    · have hy : (Y == 1582) = true := by rw [beq_iff_eq]; exact hyn
      have b4 : (Y.tmod 4 == 0) = false := by rw [hyn]; decide
      have hl : leapB (2 * Y) = false := by rw [hyn]; decide
      by_cases h9 : j = 9
      · have bj : ((j : Int) + 1 == 10) = true := by rw [beq_iff_eq]; omega
        have bj2 : ((j : Int) + 1 == 2) = false := by rw [beq_eq_false_iff_ne]; omega
        by_cases h5 : 5 ≤ d
        · by_cases h14 : d ≤ 14
          · exact near_in a0 a1 d Y j w r0 r1 u0 u1 hY hja hj hT hd64 b4 hl hyn hy hd1 h9 bj bj2 h5 h14
          · exact near_behind a0 a1 d Y j w r0 r1 u0 u1 hY hja hj hT hd64 b4 hl hyn hy hd1 h9 bj bj2 h5 (by omega)
        · exact near_before a0 a1 d Y j w r0 r1 u0 u1 hY hja hj hT hd64 b4 hl hyn hy hd1 h9 bj bj2 (by omega)
      · have bj : ((j : Int) + 1 == 10) = false := by rw [beq_eq_false_iff_ne]; omega
        by_cases hj1 : j = 1
        · exact near_feb a0 a1 d Y j w r0 r1 u0 u1 hY hja hj hT hd64 b4 hl hyn hy hd1 h9 bj (by rw [beq_iff_eq]; omega)
        · exact near_rest a0 a1 d Y j w r0 r1 u0 u1 hY hja hj hT hd64 b4 hl hyn hy hd1 h9 bj (by rw [beq_eq_false_iff_ne]; omega)
    · have hy : (Y == 1582) = false := by rw [beq_eq_false_iff_ne]; exact hyn
      by_cases hj1 : j = 1
      · have bj : ((j : Int) + 1 == 2) = true := by rw [beq_iff_eq]; omega
        cases hl : leapB (2 * Y)
        · exact far_feb_not a0 a1 d Y j w r0 r1 u0 u1 hY hja hj hT hd64 hl hw hy hyn hj1 bj hd1
        · exact far_feb_leap a0 a1 d Y j w r0 r1 u0 u1 hY hja hj hT hd64 hl hw hy hyn hj1 bj hd1
      · have bj : ((j : Int) + 1 == 2) = false := by rw [beq_eq_false_iff_ne]; omega
        exact far_other a0 a1 d Y j w r0 r1 u0 u1 hY hja hj hT hd64 hw hy hyn hj1 bj hd1
  · by_cases hyn : Y = 1582
    · have hy : (Y == 1582) = true := by rw [beq_iff_eq]; exact hyn
      have b4 : (Y.tmod 4 == 0) = false := by rw [hyn]; decide
      by_cases hj1 : j = 1
      · exact no_day_near_feb a0 a1 d Y j w r0 r1 u0 u1 hY hja hj hT hd64 b4 hy (by omega) (by rw [beq_iff_eq]; omega) (by rw [beq_eq_false_iff_ne]; omega)
      · by_cases h9 : j = 9
        · exact no_day_near_oct a0 a1 d Y j w r0 r1 u0 u1 hY hja hj hT hd64 b4 hy (by omega) (by rw [beq_eq_false_iff_ne]; omega) (by rw [beq_iff_eq]; omega)
        · exact no_day_near_rest a0 a1 d Y j w r0 r1 u0 u1 hY hja hj hT hd64 b4 hy (by omega) (by rw [beq_eq_false_iff_ne]; omega) (by rw [beq_eq_false_iff_ne]; omega)
    · have hy : (Y == 1582) = false := by rw [beq_eq_false_iff_ne]; exact hyn
      by_cases hj1 : j = 1
      · exact no_day_feb a0 a1 d Y j w r0 r1 u0 u1 hY hja hj hT hd64 hw hy (by omega) (by rw [beq_iff_eq]; omega)
      · exact no_day_rest a0 a1 d Y j w r0 r1 u0 u1 hY hja hj hT hd64 hw hy (by omega) (by rw [beq_eq_false_iff_ne]; omega)
end Go.Proofs.YbulkasmaDoor.lawS2197AModel
