/-
  LawS2197AModel: the walk.
-/
import Derived.Test.YbulkasmaDoorDateWalks
namespace Go.Proofs.YbulkasmaDoor.lawS2197AModel
open Go.ChangeShapes Go.WideShapes Go.ChangeAt Go.RowKit
open Fl

/-- The five ways through the law's own test for a leap year. -/
def Ways (Y : Int) (lp : Bool) : Prop :=
  (lp = false ∧ (Y.tmod 4 == 0) = false) ∨
  (lp = true ∧ (Y.tmod 4 == 0) = true ∧ Y < 1583) ∨
  (lp = true ∧ (Y % 4 == 0) = true ∧ 1583 ≤ Y ∧ (Y % 100 != 0) = true) ∨
  (lp = true ∧ (Y % 4 == 0) = true ∧ 1583 ≤ Y ∧ (Y % 100 != 0) = false ∧ (Y % 400 == 0) = true) ∨
  (lp = false ∧ (Y % 4 == 0) = true ∧ 1583 ≤ Y ∧ (Y % 100 != 0) = false ∧ (Y % 400 == 0) = false)

theorem ways (Y : Int) : Ways Y (leapB (2 * Y)) := by
  unfold Ways leapB
  by_cases h4 : Y % 4 = 0
  · have e4 : (Y.tmod 4 == 0) = true := by rw [beq_iff_eq]; exact (tmod_zero Y 4).2 h4
    have e4' : (Y % 4 == 0) = true := by rw [beq_iff_eq]; exact h4
    have h8 : (2 * Y) % 8 = 0 := by omega
    by_cases hl : Y < 1583
    · right; left
      rw [if_pos (by omega)]
      exact ⟨by simp [h8], e4, hl⟩
    · rw [if_neg (by omega)]
      by_cases h1 : Y % 100 = 0
      · have e1 : (Y % 100 != 0) = false := by simp [h1]
        by_cases h2 : Y % 400 = 0
        · right; right; right; left
          exact ⟨by simp [h8]; omega, e4', by omega, e1, by simp [h2]⟩
        · right; right; right; right
          exact ⟨by simp; omega, e4', by omega, e1, by simp [h2]⟩
      · right; right; left
        exact ⟨by simp [h8]; omega, e4', by omega, by rw [bne_iff_ne]; exact h1⟩
  · left
    have e4 : (Y.tmod 4 == 0) = false := by rw [beq_eq_false_iff_ne]; exact fun h => h4 ((tmod_zero Y 4).1 h)
    refine ⟨?_, e4⟩
    split
    · simp; omega
    · simp; omega


theorem ofInt_fl (Y : Int) (h : Y.natAbs < 1099511627776) : floatOfInt .f64 Y = fl (2 * Y) := by
  by_cases h0 : Y = 0
  · subst h0; decide
  · show Ieee.double.write (.number (decide (Y < 0)) Y.natAbs 0) = _
    refine write_fl ?_ (by omega) (by omega)
    have : DV (.number (decide (Y < 0)) Y.natAbs 0) Y 0 := by
      refine ⟨_, _, _, rfl, 0, Int.le_refl _, Int.le_refl _, ?_⟩
      unfold Fl.EqAt sg
      simp only [Int.sub_self, Int.toNat_zero, Int.pow_zero, Int.mul_one]
      by_cases hn : Y < 0
      · simp [hn]; omega
      · simp [hn]; omega
    have h2 := this.rescale 1
    rw [show Y * 2 ^ 1 = 2 * Y by omega] at h2
    exact h2
end Go.Proofs.YbulkasmaDoor.lawS2197AModel
