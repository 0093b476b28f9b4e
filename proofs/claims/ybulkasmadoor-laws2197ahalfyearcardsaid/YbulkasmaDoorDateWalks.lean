/-
  isLeap, lastDayOfMonth, dateExists, zzs2197acommon: what a call of each gives.
-/
import Derived.Test.YbulkasmaDoorModWalks
namespace Go.Proofs.YbulkasmaDoor
open Go.ChangeShapes Go.WideShapes Go.ChangeAt Go.RowKit
open Fl

theorem mod_4 (X : Int) (hX : X.natAbs < 1099511627776) : ∃ z, At z (X.tmod 8) (-1) ∧ ∀ w : World, Calls Ybad.prog 9 #[.float .f64 (fl X), .float .f64 4616189618054758400] w fun e w' => e = .returned (.float .f64 z) ∧ w' = w := by
  have := mod_any X 8 (by omega) (by omega) hX
  rwa [show fl ((8 : Nat) : Int) = 4616189618054758400 by decide +kernel] at this
theorem mod_100 (X : Int) (hX : X.natAbs < 1099511627776) : ∃ z, At z (X.tmod 200) (-1) ∧ ∀ w : World, Calls Ybad.prog 9 #[.float .f64 (fl X), .float .f64 4636737291354636288] w fun e w' => e = .returned (.float .f64 z) ∧ w' = w := by
  have := mod_any X 200 (by omega) (by omega) hX
  rwa [show fl ((200 : Nat) : Int) = 4636737291354636288 by decide +kernel] at this
theorem mod_400 (X : Int) (hX : X.natAbs < 1099511627776) : ∃ z, At z (X.tmod 800) (-1) ∧ ∀ w : World, Calls Ybad.prog 9 #[.float .f64 (fl X), .float .f64 4645744490609377280] w fun e w' => e = .returned (.float .f64 z) ∧ w' = w := by
  have := mod_any X 800 (by omega) (by omega) hX
  rwa [show fl ((800 : Nat) : Int) = 4645744490609377280 by decide +kernel] at this

theorem eq_zero_true {z : Nat} {n : Int} (h : At z n (-1)) (h0 : n = 0) : FloatKind.f64.format.order z 0 = some .eq := by
  subst h0
  rw [order_at h (zero_at (-1)), compare_eq]
theorem eq_zero_false {z : Nat} {n : Int} (h : At z n (-1)) (h0 : n ≠ 0) : (FloatKind.f64.format.order z 0 == some .eq) = false ∧ (FloatKind.f64.format.order z 0 != some .eq) = true := by
  rw [order_at h (zero_at (-1))]
  rcases Int.lt_trichotomy n 0 with h1 | h1 | h1
  · rw [compare_lt h1]; exact ⟨rfl, rfl⟩
  · exact absurd h1 h0
  · rw [compare_gt h1]; exact ⟨rfl, rfl⟩
theorem tmod_zero (n k : Int) : n.tmod k = 0 ↔ n % k = 0 :=
  ⟨fun h => Int.emod_eq_zero_of_dvd (Int.dvd_of_tmod_eq_zero h), fun h => Int.tmod_eq_zero_of_dvd (Int.dvd_of_emod_eq_zero h)⟩

theorem k1583 : At 4654676923073429504 3166 (-1) := by
  refine ⟨false, 6962107627077632, -42, by decide +kernel, -1074, by decide, by decide, ?_⟩
  unfold Fl.EqAt sg; decide +kernel
theorem k1582 : At 4654672525026918400 3164 (-1) := by
  refine ⟨false, 6957709580566528, -42, by decide +kernel, -1074, by decide, by decide, ?_⟩
  unfold Fl.EqAt sg; decide +kernel

/-- isLeap, of X / 2. -/
def leapB (X : Int) : Bool := if X < 3166 then decide (X % 8 = 0) else decide (X % 8 = 0 ∧ (¬ X % 200 = 0 ∨ X % 800 = 0))

theorem leap_any (X : Int) (hX : X.natAbs < 1099511627776) (w : World) :
    Calls Ybad.prog 8 #[.float .f64 (fl X)] w fun e w' => e = .returned (.bool (leapB X)) ∧ w' = w := by
  obtain ⟨z1, v1, c1⟩ := mod_4 X hX
  obtain ⟨z2, v2, c2⟩ := mod_100 X hX
  obtain ⟨z3, v3, c3⟩ := mod_400 X hX
  unfold leapB
  by_cases h0 : X < 3166
  · have ho : FloatKind.f64.format.order (fl X) 4654676923073429504 = some .lt := by rw [order_at (fl_at X (by omega)) k1583, compare_lt h0]
    rw [if_pos h0]
    by_cases h1 : X % 8 = 0
    · have e1 := eq_zero_true v1 ((tmod_zero X 8).2 h1)
      rw [show decide (X % 8 = 0) = true by simp [h1]]
      clear h1 v1 v2 v3
      go_enter Ybad.func8, Ybad.ntmps8
      go_wp2_with (go_at_call 9; refine (c1 _).mono ?_; rintro e w' ⟨rfl, rfl⟩)
      go_ret
      exact ⟨rfl, rfl⟩
    · have e1 := (eq_zero_false v1 (fun h => h1 ((tmod_zero X 8).1 h))).1
      rw [show decide (X % 8 = 0) = false by simp [h1]]
      clear h1 v1 v2 v3
      go_enter Ybad.func8, Ybad.ntmps8
      go_wp2_with (go_at_call 9; refine (c1 _).mono ?_; rintro e w' ⟨rfl, rfl⟩)
      go_ret
      exact ⟨rfl, rfl⟩
  · have ho : (FloatKind.f64.format.order (fl X) 4654676923073429504 == some .lt) = false := by
      rw [order_at (fl_at X (by omega)) k1583]
      by_cases he : X = 3166
      · subst he; rw [compare_eq]; rfl
      · rw [compare_gt (by omega)]; rfl
    rw [if_neg h0]
    by_cases h1 : X % 8 = 0
    · have e1 := eq_zero_true v1 ((tmod_zero X 8).2 h1)
      by_cases h2 : X % 200 = 0
      · have e2 := eq_zero_true v2 ((tmod_zero X 200).2 h2)
        by_cases h3 : X % 800 = 0
        · have e3 := eq_zero_true v3 ((tmod_zero X 800).2 h3)
          rw [show decide (X % 8 = 0 ∧ (¬ X % 200 = 0 ∨ X % 800 = 0)) = true by simp [h1, h3]]
          clear h1 h2 h3 v1 v2 v3
          go_enter Ybad.func8, Ybad.ntmps8
          go_wp2_with fail
          refine (c1 _).mono ?_; rintro e w' ⟨rfl, rfl⟩
          go_wp2_with fail
          refine (c2 _).mono ?_; rintro e w' ⟨rfl, rfl⟩
          go_wp2_with fail
          refine (c3 _).mono ?_; rintro e w' ⟨rfl, rfl⟩
          go_wp2_with fail
          go_ret
          exact ⟨rfl, rfl⟩
        · have e3 := (eq_zero_false v3 (fun h => h3 ((tmod_zero X 800).1 h))).1
          rw [show decide (X % 8 = 0 ∧ (¬ X % 200 = 0 ∨ X % 800 = 0)) = false by simp [h2, h3]]
          clear h1 h2 h3 v1 v2 v3
          go_enter Ybad.func8, Ybad.ntmps8
          go_wp2_with fail
          refine (c1 _).mono ?_; rintro e w' ⟨rfl, rfl⟩
          go_wp2_with fail
          refine (c2 _).mono ?_; rintro e w' ⟨rfl, rfl⟩
          go_wp2_with fail
          refine (c3 _).mono ?_; rintro e w' ⟨rfl, rfl⟩
          go_wp2_with fail
          go_ret
          exact ⟨rfl, rfl⟩
      · have e2 := (eq_zero_false v2 (fun h => h2 ((tmod_zero X 200).1 h))).2
        rw [show decide (X % 8 = 0 ∧ (¬ X % 200 = 0 ∨ X % 800 = 0)) = true by simp [h1, h2]]
        clear h1 h2 v1 v2 v3
        go_enter Ybad.func8, Ybad.ntmps8
        go_wp2_with fail
        refine (c1 _).mono ?_; rintro e w' ⟨rfl, rfl⟩
        go_wp2_with fail
        refine (c2 _).mono ?_; rintro e w' ⟨rfl, rfl⟩
        go_wp2_with fail
        go_ret
        exact ⟨rfl, rfl⟩
    · have e1 := (eq_zero_false v1 (fun h => h1 ((tmod_zero X 8).1 h))).1
      rw [show decide (X % 8 = 0 ∧ (¬ X % 200 = 0 ∨ X % 800 = 0)) = false by simp [h1]]
      clear h1 v1 v2 v3
      go_enter Ybad.func8, Ybad.ntmps8
      go_wp2_with fail
      refine (c1 _).mono ?_; rintro e w' ⟨rfl, rfl⟩
      go_wp2_with fail
      go_ret
      exact ⟨rfl, rfl⟩

/-- The length of month j + 1 of a common year. -/
def mdays (j : Nat) : Int := [31, 28, 31, 30, 31, 30, 31, 31, 30, 31, 30, 31].getD j 0
/-- The table in memory. -/
def Tab (w : World) : Prop := ∀ j, j < 12 → w.cell? ⟨0, j, none⟩ = some (.int .i64 (mdays j))
theorem Tab.alloc {w : World} (h : Tab w) (o : Obj) : Tab (w.alloc o) := by
  intro j hj
  have h1 := h j hj
  have hlt : 0 < w.heap.size := by
    rcases Nat.eq_zero_or_pos w.heap.size with h' | h'
    · simp [World.cell?, Array.getElem?_eq_none (Nat.le_of_eq h')] at h1
    · exact h'
  rw [← h1]
  unfold World.cell?
  simp only
  rw [(MapKept.heap_alloc w o).2 0 hlt]

/-- zzs2197acommon. -/
def comObj : Obj := .cells #[.int .i64 31, .int .i64 28, .int .i64 31, .int .i64 30, .int .i64 31, .int .i64 30, .int .i64 31, .int .i64 31, .int .i64 30, .int .i64 31, .int .i64 30, .int .i64 31] 26 (0, 0)
set_option maxHeartbeats 2000000 in
theorem common_any (j : Nat) (hj : j < 12) (w : World) :
    Calls Ybad.prog 5 #[.int .i64 ((j : Int) + 1)] w fun e w' => e = .returned (.int .i64 (mdays j)) ∧ w' = w.alloc comObj := by
  have hc : j = 0 ∨ j = 1 ∨ j = 2 ∨ j = 3 ∨ j = 4 ∨ j = 5 ∨ j = 6 ∨ j = 7 ∨ j = 8 ∨ j = 9 ∨ j = 10 ∨ j = 11 := by omega
  rcases hc with rfl | rfl | rfl | rfl | rfl | rfl | rfl | rfl | rfl | rfl | rfl | rfl
  all_goals
    go_enter Ybad.func5, Ybad.ntmps5
    go_wp2
    go_ret
    exact ⟨rfl, rfl⟩

/-- lastDayOfMonth. -/
def lastI (X : Int) (j : Nat) : Int := if j = 1 ∧ leapB X = true then 29 else mdays j
theorem last_any (X : Int) (hX : X.natAbs < 1099511627776) (j : Nat) (hj : j < 12) (w : World) (hT : Tab w) :
    Calls Ybad.prog 7 #[.float .f64 (fl X), .int .i64 ((j : Int) + 1)] w fun e w' => e = .returned (.int .i64 (lastI X j)) ∧ w' = w := by
  have hcell := hT j hj
  unfold lastI
  by_cases h2 : j = 1
  · subst h2
    cases hl : leapB X
    · have hcell' : w.cell? ⟨0, 1, none⟩ = some (.int .i64 28) := hcell
      go_enter Ybad.func7, Ybad.ntmps7
      go_wp2_with (go_at_call 8; refine (leap_any X hX _).mono ?_; rintro e w' ⟨rfl, rfl⟩; rw [hl])
      go_ret
      exact ⟨rfl, rfl⟩
    · go_enter Ybad.func7, Ybad.ntmps7
      go_wp2_with (go_at_call 8; refine (leap_any X hX _).mono ?_; rintro e w' ⟨rfl, rfl⟩; rw [hl])
      go_ret
      exact ⟨rfl, rfl⟩
  · have hb : ((j : Int) + 1 == 2) = false := by rw [beq_eq_false_iff_ne]; omega
    rw [if_neg (fun h => h2 h.1)]
    go_enter Ybad.func7, Ybad.ntmps7
    go_wp2_with fail
    go_ret
    exact ⟨rfl, rfl⟩

/-- dateExists. -/
def dateB (X : Int) (j : Nat) (d : Int) : Bool := if X = 3164 ∧ j = 9 ∧ 5 ≤ d ∧ d ≤ 14 then false else decide (1 ≤ d) && decide (d ≤ lastI X j)

set_option maxHeartbeats 1000000 in
theorem date_any (X : Int) (hX : X.natAbs < 1099511627776) (j : Nat) (hj : j < 12) (d : Int) (w : World) (hT : Tab w) :
    Calls Ybad.prog 6 #[.float .f64 (fl X), .int .i64 ((j : Int) + 1), .int .i64 d] w fun e w' => e = .returned (.bool (dateB X j d)) ∧ w' = w := by
  have hlast := last_any X hX j hj w hT
  generalize hLL : lastI X j = L at hlast
  unfold dateB
  rw [hLL]
  clear hLL
  by_cases h1 : X = 3164
  · have e1 : FloatKind.f64.format.order (fl X) 4654672525026918400 = some .eq := by rw [order_at (fl_at X (by omega)) k1582, h1, compare_eq]
    by_cases h2 : j = 9
    · have e2 : ((j : Int) + 1 == 10) = true := by rw [beq_iff_eq]; omega
      by_cases h3 : 5 ≤ d
      · by_cases h4 : d ≤ 14
        · rw [if_pos ⟨h1, h2, h3, h4⟩]
          clear h1 h2
          go_enter Ybad.func6, Ybad.ntmps6
          go_wp2_with fail
          go_ret
          exact ⟨rfl, rfl⟩
        · rw [if_neg (fun h => h4 h.2.2.2)]
          have h5 : 1 ≤ d := by omega
          clear h1 h2
          go_enter Ybad.func6, Ybad.ntmps6
          go_wp2_with (go_at_call 7; refine hlast.mono ?_; rintro e w' ⟨rfl, rfl⟩)
          go_ret
          exact ⟨by simp [h5], rfl⟩
      · rw [if_neg (fun h => h3 h.2.2.1)]
        clear h1 h2
        by_cases h5 : 1 ≤ d
        · go_enter Ybad.func6, Ybad.ntmps6
          go_wp2_with (go_at_call 7; refine hlast.mono ?_; rintro e w' ⟨rfl, rfl⟩)
          go_ret
          exact ⟨by simp [h5], rfl⟩
        · go_enter Ybad.func6, Ybad.ntmps6
          go_wp2_with (go_at_call 7; refine hlast.mono ?_; rintro e w' ⟨rfl, rfl⟩)
          go_ret
          exact ⟨by simp; omega, rfl⟩
    · have e2 : ((j : Int) + 1 == 10) = false := by rw [beq_eq_false_iff_ne]; omega
      rw [if_neg (fun h => h2 h.2.1)]
      clear h1
      by_cases h5 : 1 ≤ d
      · go_enter Ybad.func6, Ybad.ntmps6
        go_wp2_with (go_at_call 7; refine hlast.mono ?_; rintro e w' ⟨rfl, rfl⟩)
        go_ret
        exact ⟨by simp [h5], rfl⟩
      · go_enter Ybad.func6, Ybad.ntmps6
        go_wp2_with (go_at_call 7; refine hlast.mono ?_; rintro e w' ⟨rfl, rfl⟩)
        go_ret
        exact ⟨by simp; omega, rfl⟩
  · have e1 : (FloatKind.f64.format.order (fl X) 4654672525026918400 == some .eq) = false := by
      rw [order_at (fl_at X (by omega)) k1582]
      rcases Int.lt_trichotomy X 3164 with h | h | h
      · rw [compare_lt h]; rfl
      · exact absurd h h1
      · rw [compare_gt h]; rfl
    rw [if_neg (fun h => h1 h.1)]
    by_cases h5 : 1 ≤ d
    · go_enter Ybad.func6, Ybad.ntmps6
      go_wp2_with (go_at_call 7; refine hlast.mono ?_; rintro e w' ⟨rfl, rfl⟩)
      go_ret
      exact ⟨by simp [h5], rfl⟩
    · go_enter Ybad.func6, Ybad.ntmps6
      go_wp2_with (go_at_call 7; refine hlast.mono ?_; rintro e w' ⟨rfl, rfl⟩)
      go_ret
      exact ⟨by simp; omega, rfl⟩
end Go.Proofs.YbulkasmaDoor
