/-
  LawS2197AModel: the walk, part D.
-/
import Derived.Test.YbulkasmaDoorModelWays
namespace Go.Proofs.YbulkasmaDoor.lawS2197AModel
open Go.ChangeShapes Go.WideShapes Go.ChangeAt Go.RowKit
open Fl
set_option linter.unusedVariables false

set_option maxRecDepth 100000 in
set_option maxHeartbeats 2000000 in
theorem no_day_near_feb (a0 a1 d Y : Int) (j : Nat) (w : World) (r0 : -2147483648 ≤ a0) (r1 : a0 ≤ 2147483647) (u0 : 0 ≤ a1) (u1 : a1 ≤ 255) (hY : a0 + 1582 = Y) (hja : a1 % 12 = (j : Int)) (hj : j < 12) (hT : Tab w) (hd64 : -9223372036854775808 ≤ d ∧ d ≤ 9223372036854775807)
    (b4 : (Y.tmod 4 == 0) = false) (hy : (Y == 1582) = true) (hd1 : d < 1) (bj : ((j : Int) + 1 == 2) = true) (bj2 : ((j : Int) + 1 == 10) = false) :
    Calls Ybad.prog 3 #[.int .i32 a0, .int .u8 a1, .int .i64 d] w fun e w' => e = .returned (.bool true) ∧ Below w.heap.size w w' := by
  have hfl : floatOfInt .f64 Y = fl (2 * Y) := ofInt_fl Y (by omega)
  have hX : (2 * Y).natAbs < 1099511627776 := by omega
  have hdb : dateB (2 * Y) j d = false := by
    unfold dateB lastI
    have h1 : decide (1 ≤ d) = false := by simp; omega
    rw [h1]; split <;> simp
  have hda := date_any (2 * Y) hX j hj d (w.alloc comObj) (hT.alloc _)
  rw [hdb] at hda
  clear hdb hX hd64
  all_goals
    go_enter Ybad.func3, Ybad.ntmps3
    go_wp2_with (first
      | (go_at_call 5; refine (common_any j hj _).mono ?_; rintro e w' ⟨rfl, rfl⟩)
      | (go_at_call 6; refine hda.mono ?_; rintro e w' ⟨rfl, rfl⟩))
    go_ret
    exact ⟨by simp, (Below.refl _ _).alloc (Nat.le_refl _) _⟩

set_option maxRecDepth 100000 in
set_option maxHeartbeats 2000000 in
theorem no_day_near_oct (a0 a1 d Y : Int) (j : Nat) (w : World) (r0 : -2147483648 ≤ a0) (r1 : a0 ≤ 2147483647) (u0 : 0 ≤ a1) (u1 : a1 ≤ 255) (hY : a0 + 1582 = Y) (hja : a1 % 12 = (j : Int)) (hj : j < 12) (hT : Tab w) (hd64 : -9223372036854775808 ≤ d ∧ d ≤ 9223372036854775807)
    (b4 : (Y.tmod 4 == 0) = false) (hy : (Y == 1582) = true) (hd1 : d < 1) (bj : ((j : Int) + 1 == 2) = false) (bj2 : ((j : Int) + 1 == 10) = true) :
    Calls Ybad.prog 3 #[.int .i32 a0, .int .u8 a1, .int .i64 d] w fun e w' => e = .returned (.bool true) ∧ Below w.heap.size w w' := by
  have hfl : floatOfInt .f64 Y = fl (2 * Y) := ofInt_fl Y (by omega)
  have hX : (2 * Y).natAbs < 1099511627776 := by omega
  have hdb : dateB (2 * Y) j d = false := by
    unfold dateB lastI
    have h1 : decide (1 ≤ d) = false := by simp; omega
    rw [h1]; split <;> simp
  have hda := date_any (2 * Y) hX j hj d (w.alloc comObj) (hT.alloc _)
  rw [hdb] at hda
  clear hdb hX hd64
  all_goals
    go_enter Ybad.func3, Ybad.ntmps3
    go_wp2_with (first
      | (go_at_call 5; refine (common_any j hj _).mono ?_; rintro e w' ⟨rfl, rfl⟩)
      | (go_at_call 6; refine hda.mono ?_; rintro e w' ⟨rfl, rfl⟩))
    go_ret
    exact ⟨by simp, (Below.refl _ _).alloc (Nat.le_refl _) _⟩

set_option maxRecDepth 100000 in
set_option maxHeartbeats 2000000 in
theorem no_day_near_rest (a0 a1 d Y : Int) (j : Nat) (w : World) (r0 : -2147483648 ≤ a0) (r1 : a0 ≤ 2147483647) (u0 : 0 ≤ a1) (u1 : a1 ≤ 255) (hY : a0 + 1582 = Y) (hja : a1 % 12 = (j : Int)) (hj : j < 12) (hT : Tab w) (hd64 : -9223372036854775808 ≤ d ∧ d ≤ 9223372036854775807)
    (b4 : (Y.tmod 4 == 0) = false) (hy : (Y == 1582) = true) (hd1 : d < 1) (bj : ((j : Int) + 1 == 2) = false) (bj2 : ((j : Int) + 1 == 10) = false) :
    Calls Ybad.prog 3 #[.int .i32 a0, .int .u8 a1, .int .i64 d] w fun e w' => e = .returned (.bool true) ∧ Below w.heap.size w w' := by
  have hfl : floatOfInt .f64 Y = fl (2 * Y) := ofInt_fl Y (by omega)
  have hX : (2 * Y).natAbs < 1099511627776 := by omega
  have hdb : dateB (2 * Y) j d = false := by
    unfold dateB lastI
    have h1 : decide (1 ≤ d) = false := by simp; omega
    rw [h1]; split <;> simp
  have hda := date_any (2 * Y) hX j hj d (w.alloc comObj) (hT.alloc _)
  rw [hdb] at hda
  clear hdb hX hd64
  all_goals
    go_enter Ybad.func3, Ybad.ntmps3
    go_wp2_with (first
      | (go_at_call 5; refine (common_any j hj _).mono ?_; rintro e w' ⟨rfl, rfl⟩)
      | (go_at_call 6; refine hda.mono ?_; rintro e w' ⟨rfl, rfl⟩))
    go_ret
    exact ⟨by simp, (Below.refl _ _).alloc (Nat.le_refl _) _⟩

set_option maxRecDepth 100000 in
set_option maxHeartbeats 2000000 in
theorem near_feb (a0 a1 d Y : Int) (j : Nat) (w : World) (r0 : -2147483648 ≤ a0) (r1 : a0 ≤ 2147483647) (u0 : 0 ≤ a1) (u1 : a1 ≤ 255) (hY : a0 + 1582 = Y) (hja : a1 % 12 = (j : Int)) (hj : j < 12) (hT : Tab w) (hd64 : -9223372036854775808 ≤ d ∧ d ≤ 9223372036854775807)
    (b4 : (Y.tmod 4 == 0) = false) (hl : leapB (2 * Y) = false) (hyn : Y = 1582) (hy : (Y == 1582) = true) (hd1 : 1 ≤ d) (h9 : ¬ j = 9) (bj : ((j : Int) + 1 == 10) = false) (bj2 : ((j : Int) + 1 == 2) = true) :
    Calls Ybad.prog 3 #[.int .i32 a0, .int .u8 a1, .int .i64 d] w fun e w' => e = .returned (.bool true) ∧ Below w.heap.size w w' := by
  have hfl : floatOfInt .f64 Y = fl (2 * Y) := ofInt_fl Y (by omega)
  have hX : (2 * Y).natAbs < 1099511627776 := by omega
  have hdb : dateB (2 * Y) j d = decide (d ≤ mdays j) := by
    unfold dateB lastI
    rw [if_neg (fun h => h9 h.2.1), if_neg (fun h => by rw [hl] at h; exact Bool.noConfusion h.2)]; simp [hd1]
  have hda := date_any (2 * Y) hX j hj d (w.alloc comObj) (hT.alloc _)
  rw [hdb] at hda
  clear hdb hX hd64
  clear hl hyn h9
  all_goals
    go_enter Ybad.func3, Ybad.ntmps3
    go_wp2_with (first
      | (go_at_call 5; refine (common_any j hj _).mono ?_; rintro e w' ⟨rfl, rfl⟩)
      | (go_at_call 6; refine hda.mono ?_; rintro e w' ⟨rfl, rfl⟩))
    go_ret
    exact ⟨by simp, (Below.refl _ _).alloc (Nat.le_refl _) _⟩

set_option maxRecDepth 100000 in
set_option maxHeartbeats 2000000 in
theorem near_rest (a0 a1 d Y : Int) (j : Nat) (w : World) (r0 : -2147483648 ≤ a0) (r1 : a0 ≤ 2147483647) (u0 : 0 ≤ a1) (u1 : a1 ≤ 255) (hY : a0 + 1582 = Y) (hja : a1 % 12 = (j : Int)) (hj : j < 12) (hT : Tab w) (hd64 : -9223372036854775808 ≤ d ∧ d ≤ 9223372036854775807)
    (b4 : (Y.tmod 4 == 0) = false) (hl : leapB (2 * Y) = false) (hyn : Y = 1582) (hy : (Y == 1582) = true) (hd1 : 1 ≤ d) (h9 : ¬ j = 9) (bj : ((j : Int) + 1 == 10) = false) (bj2 : ((j : Int) + 1 == 2) = false) :
    Calls Ybad.prog 3 #[.int .i32 a0, .int .u8 a1, .int .i64 d] w fun e w' => e = .returned (.bool true) ∧ Below w.heap.size w w' := by
  have hfl : floatOfInt .f64 Y = fl (2 * Y) := ofInt_fl Y (by omega)
  have hX : (2 * Y).natAbs < 1099511627776 := by omega
  have hdb : dateB (2 * Y) j d = decide (d ≤ mdays j) := by
    unfold dateB lastI
    rw [if_neg (fun h => h9 h.2.1), if_neg (fun h => by rw [hl] at h; exact Bool.noConfusion h.2)]; simp [hd1]
  have hda := date_any (2 * Y) hX j hj d (w.alloc comObj) (hT.alloc _)
  rw [hdb] at hda
  clear hdb hX hd64
  clear hl hyn h9
  all_goals
    go_enter Ybad.func3, Ybad.ntmps3
    go_wp2_with (first
      | (go_at_call 5; refine (common_any j hj _).mono ?_; rintro e w' ⟨rfl, rfl⟩)
      | (go_at_call 6; refine hda.mono ?_; rintro e w' ⟨rfl, rfl⟩))
    go_ret
    exact ⟨by simp, (Below.refl _ _).alloc (Nat.le_refl _) _⟩

set_option maxRecDepth 100000 in
set_option maxHeartbeats 2000000 in
theorem near_in (a0 a1 d Y : Int) (j : Nat) (w : World) (r0 : -2147483648 ≤ a0) (r1 : a0 ≤ 2147483647) (u0 : 0 ≤ a1) (u1 : a1 ≤ 255) (hY : a0 + 1582 = Y) (hja : a1 % 12 = (j : Int)) (hj : j < 12) (hT : Tab w) (hd64 : -9223372036854775808 ≤ d ∧ d ≤ 9223372036854775807)
    (b4 : (Y.tmod 4 == 0) = false) (hl : leapB (2 * Y) = false) (hyn : Y = 1582) (hy : (Y == 1582) = true) (hd1 : 1 ≤ d) (h9 : j = 9) (bj : ((j : Int) + 1 == 10) = true) (bj2 : ((j : Int) + 1 == 2) = false) (h5 : 5 ≤ d) (h14 : d ≤ 14) :
    Calls Ybad.prog 3 #[.int .i32 a0, .int .u8 a1, .int .i64 d] w fun e w' => e = .returned (.bool true) ∧ Below w.heap.size w w' := by
  have hfl : floatOfInt .f64 Y = fl (2 * Y) := ofInt_fl Y (by omega)
  have hX : (2 * Y).natAbs < 1099511627776 := by omega
  have hdb : dateB (2 * Y) j d = false := by
    unfold dateB lastI
    rw [if_pos ⟨by omega, h9, h5, h14⟩]
  have hda := date_any (2 * Y) hX j hj d (w.alloc comObj) (hT.alloc _)
  rw [hdb] at hda
  clear hdb hX hd64
  clear hl hyn h9
  all_goals
    go_enter Ybad.func3, Ybad.ntmps3
    go_wp2_with (first
      | (go_at_call 5; refine (common_any j hj _).mono ?_; rintro e w' ⟨rfl, rfl⟩)
      | (go_at_call 6; refine hda.mono ?_; rintro e w' ⟨rfl, rfl⟩))
    go_ret
    exact ⟨by simp, (Below.refl _ _).alloc (Nat.le_refl _) _⟩

set_option maxRecDepth 100000 in
set_option maxHeartbeats 2000000 in
theorem near_before (a0 a1 d Y : Int) (j : Nat) (w : World) (r0 : -2147483648 ≤ a0) (r1 : a0 ≤ 2147483647) (u0 : 0 ≤ a1) (u1 : a1 ≤ 255) (hY : a0 + 1582 = Y) (hja : a1 % 12 = (j : Int)) (hj : j < 12) (hT : Tab w) (hd64 : -9223372036854775808 ≤ d ∧ d ≤ 9223372036854775807)
    (b4 : (Y.tmod 4 == 0) = false) (hl : leapB (2 * Y) = false) (hyn : Y = 1582) (hy : (Y == 1582) = true) (hd1 : 1 ≤ d) (h9 : j = 9) (bj : ((j : Int) + 1 == 10) = true) (bj2 : ((j : Int) + 1 == 2) = false) (h5 : d < 5) :
    Calls Ybad.prog 3 #[.int .i32 a0, .int .u8 a1, .int .i64 d] w fun e w' => e = .returned (.bool true) ∧ Below w.heap.size w w' := by
  have hfl : floatOfInt .f64 Y = fl (2 * Y) := ofInt_fl Y (by omega)
  have hX : (2 * Y).natAbs < 1099511627776 := by omega
  have hdb : dateB (2 * Y) j d = decide (d ≤ mdays j) := by
    unfold dateB lastI
    rw [if_neg (fun h => by omega), if_neg (fun h => by rw [hl] at h; exact Bool.noConfusion h.2)]; simp [hd1]
  have hda := date_any (2 * Y) hX j hj d (w.alloc comObj) (hT.alloc _)
  rw [hdb] at hda
  clear hdb hX hd64
  clear hl hyn h9
  all_goals
    go_enter Ybad.func3, Ybad.ntmps3
    go_wp2_with (first
      | (go_at_call 5; refine (common_any j hj _).mono ?_; rintro e w' ⟨rfl, rfl⟩)
      | (go_at_call 6; refine hda.mono ?_; rintro e w' ⟨rfl, rfl⟩))
    go_ret
    exact ⟨by simp, (Below.refl _ _).alloc (Nat.le_refl _) _⟩

set_option maxRecDepth 100000 in
set_option maxHeartbeats 2000000 in
theorem near_behind (a0 a1 d Y : Int) (j : Nat) (w : World) (r0 : -2147483648 ≤ a0) (r1 : a0 ≤ 2147483647) (u0 : 0 ≤ a1) (u1 : a1 ≤ 255) (hY : a0 + 1582 = Y) (hja : a1 % 12 = (j : Int)) (hj : j < 12) (hT : Tab w) (hd64 : -9223372036854775808 ≤ d ∧ d ≤ 9223372036854775807)
    (b4 : (Y.tmod 4 == 0) = false) (hl : leapB (2 * Y) = false) (hyn : Y = 1582) (hy : (Y == 1582) = true) (hd1 : 1 ≤ d) (h9 : j = 9) (bj : ((j : Int) + 1 == 10) = true) (bj2 : ((j : Int) + 1 == 2) = false) (h5 : 5 ≤ d) (h14 : 14 < d) :
    Calls Ybad.prog 3 #[.int .i32 a0, .int .u8 a1, .int .i64 d] w fun e w' => e = .returned (.bool true) ∧ Below w.heap.size w w' := by
  have hfl : floatOfInt .f64 Y = fl (2 * Y) := ofInt_fl Y (by omega)
  have hX : (2 * Y).natAbs < 1099511627776 := by omega
  have hdb : dateB (2 * Y) j d = decide (d ≤ mdays j) := by
    unfold dateB lastI
    rw [if_neg (fun h => by omega), if_neg (fun h => by rw [hl] at h; exact Bool.noConfusion h.2)]; simp [hd1]
  have hda := date_any (2 * Y) hX j hj d (w.alloc comObj) (hT.alloc _)
  rw [hdb] at hda
  clear hdb hX hd64
  clear hl hyn h9
  all_goals
    go_enter Ybad.func3, Ybad.ntmps3
    go_wp2_with (first
      | (go_at_call 5; refine (common_any j hj _).mono ?_; rintro e w' ⟨rfl, rfl⟩)
      | (go_at_call 6; refine hda.mono ?_; rintro e w' ⟨rfl, rfl⟩))
    go_ret
    exact ⟨by simp, (Below.refl _ _).alloc (Nat.le_refl _) _⟩
end Go.Proofs.YbulkasmaDoor.lawS2197AModel
