/-
  yearStart, julianDayOfYear, zzs2197bdays: what a call of each gives, as whole numbers of half days, of 2048ths of a day, of days.
-/
import Derived.Test.YbulkasmaMathWalks
import Derived.Test.YbulkasmaFloatDiv
namespace Go.Proofs.Ybulkasma
open Go.ChangeShapes Go.WideShapes Go.ChangeAt Go.RowKit
open Fl

theorem k3 : At 4613937818241073152 (3) (0) := by
  refine ⟨false, 6755399441055744, -51, by decide +kernel, -1074, by decide, by decide, ?_⟩
  unfold Fl.EqAt sg; decide +kernel
theorem k4 : At 4616189618054758400 (4) (0) := by
  refine ⟨false, 4503599627370496, -50, by decide +kernel, -1074, by decide, by decide, ?_⟩
  unfold Fl.EqAt sg; decide +kernel
theorem k99 : At 4636666922610458624 (99) (0) := by
  refine ⟨false, 6966505673588736, -46, by decide +kernel, -1074, by decide, by decide, ?_⟩
  unfold Fl.EqAt sg; decide +kernel
theorem k100 : At 4636737291354636288 (100) (0) := by
  refine ⟨false, 7036874417766400, -46, by decide +kernel, -1074, by decide, by decide, ?_⟩
  unfold Fl.EqAt sg; decide +kernel
theorem k399 : At 4645726898423332864 (399) (0) := by
  refine ⟨false, 7019282231721984, -44, by decide +kernel, -1074, by decide, by decide, ?_⟩
  unfold Fl.EqAt sg; decide +kernel
theorem k400 : At 4645744490609377280 (400) (0) := by
  refine ⟨false, 7036874417766400, -44, by decide +kernel, -1074, by decide, by decide, ?_⟩
  unfold Fl.EqAt sg; decide +kernel
theorem k365 : At 4645128764097822720 (365) (0) := by
  refine ⟨false, 6421147906211840, -44, by decide +kernel, -1074, by decide, by decide, ?_⟩
  unfold Fl.EqAt sg; decide +kernel
theorem k366 : At 4645146356283867136 (366) (0) := by
  refine ⟨false, 6438740092256256, -44, by decide +kernel, -1074, by decide, by decide, ?_⟩
  unfold Fl.EqAt sg; decide +kernel
theorem k355 : At 4644952842237378560 (355) (0) := by
  refine ⟨false, 6245226045767680, -44, by decide +kernel, -1074, by decide, by decide, ?_⟩
  unfold Fl.EqAt sg; decide +kernel
theorem k1583 : At 4654676923073429504 (1583) (0) := by
  refine ⟨false, 6962107627077632, -42, by decide +kernel, -1074, by decide, by decide, ?_⟩
  unfold Fl.EqAt sg; decide +kernel
theorem kJul : At 4700142697397092352 (3442115) (-1) := by
  refine ⟨false, 7391885677035520, -32, by decide +kernel, -1074, by decide, by decide, ?_⟩
  unfold Fl.EqAt sg; decide +kernel
theorem kGre : At 4700142705987026944 (3442119) (-1) := by
  refine ⟨false, 7391894266970112, -32, by decide +kernel, -1074, by decide, by decide, ?_⟩
  unfold Fl.EqAt sg; decide +kernel
theorem k1 : At 4607182418800017408 (1) (0) := by
  refine ⟨false, 4503599627370496, -52, by decide +kernel, -1074, by decide, by decide, ?_⟩
  unfold Fl.EqAt sg; decide +kernel
theorem kHalf : At 4602678819172646912 (1) (-1) := by
  refine ⟨false, 4503599627370496, -53, by decide +kernel, -1074, by decide, by decide, ?_⟩
  unfold Fl.EqAt sg; decide +kernel
theorem k2000 : At 4656510908468559872 (2000) (0) := by
  refine ⟨false, 8796093022208000, -42, by decide +kernel, -1074, by decide, by decide, ?_⟩
  unfold Fl.EqAt sg; decide +kernel
theorem kJ2000 : At 4702519063073521664 (4903089) (-1) := by
  refine ⟨false, 5264651726094336, -31, by decide +kernel, -1074, by decide, by decide, ?_⟩
  unfold Fl.EqAt sg; decide +kernel
theorem k1024 : At 4652218415073722368 (1024) (0) := by
  refine ⟨false, 4503599627370496, -42, by decide +kernel, -1074, by decide, by decide, ?_⟩
  unfold Fl.EqAt sg; decide +kernel

/-- The start of the year y, in half days. -/
def S2 (y : Int) : Int := if y < 1583 then 3442115 + 730 * y + 2 * ((y + 3) / 4) else 3442119 + 730 * y + 2 * ((y + 3) / 4) - 2 * ((y + 99) / 100) + 2 * ((y + 399) / 400)
/-- The length of the year n, in days. -/
def daysOf (n : Int) : Int := if n < 1582 then (if n % 4 = 0 then 366 else 365) else if n = 1582 then 355 else if n % 4 = 0 ∧ (¬ n % 100 = 0 ∨ n % 400 = 0) then 366 else 365

theorem S2_step (n : Int) : S2 (n + 1) - S2 n = 2 * daysOf n := by
  unfold S2 daysOf
  split <;> split <;> split <;> (try split) <;> (try split) <;> omega
theorem S2_odd (n : Int) : ∃ h, S2 n = 2 * h + 1 := by
  unfold S2
  split
  · exact ⟨1721057 + 365 * n + (n + 3) / 4, by omega⟩
  · exact ⟨1721059 + 365 * n + (n + 3) / 4 - (n + 99) / 100 + (n + 399) / 400, by omega⟩
theorem S2_bound (n : Int) (h1 : -2000000 ≤ n) (h2 : n ≤ 2000000) : -2000000000 ≤ S2 n ∧ S2 n ≤ 2000000000 := by
  unfold S2
  split <;> omega

theorem run_fl (op : BinOp) {x y r : Nat} (h : floatBits op .f64 x y = some r) (w : World) : (binOp op 22 (.float .f64 x) (.float .f64 y)).run Yba.prog w = .ok (.float .f64 r) w := run_float_arith w op 22 .f64 x y r h

theorem leap_at {x : Nat} {y : Int} (hx : At x y 0) (h1 : -2000000 ≤ y) (h2 : y ≤ 2000000) :
    ∃ a b, floatBits .add .f64 x 4613937818241073152 = some a ∧ floatBits .quo .f64 a 4616189618054758400 = some b ∧ (∃ n q, At b n q) ∧ At (floorWord b) ((y + 3) / 4) 0 := by
  obtain ⟨a, ha, va⟩ := add_at hx k3 (by omega) (by omega) (by omega)
  obtain ⟨b, hb, vb⟩ := div_at (c := y + 3) (t := -2) va k4 (by omega) (-2) (by omega) (by omega) (by simp) (by omega) (by omega) (by omega)
  have vf := floor_at (s := 2) vb (by simp; omega)
  exact ⟨a, b, ha, hb, ⟨_, _, vb⟩, by simpa using vf⟩

theorem yearStart_jul {x : Nat} {y : Int} (hx : At x y 0) (h1 : -2000000 ≤ y) (h2 : y < 1583) :
    ∃ z, At z (S2 y) (-1) ∧ ∀ w : World, Calls Yba.prog 16 #[.float .f64 x] w fun e w' => e = .returned (.float .f64 z) ∧ w' = w := by
  obtain ⟨a, b, ha, hb, ⟨bn, bq, vb⟩, vf⟩ := leap_at hx h1 (by omega)
  obtain ⟨c, hc, vc⟩ := mul_at k365 hx (by omega) (by omega) (by omega)
  have vc' : At c (730 * y) (-1) := vc.rescale 1 (by omega) (by omega)
  obtain ⟨d, hd, vd⟩ := add_at kJul vc' (by omega) (by omega) (by omega)
  have vf' : At (floorWord b) (2 * ((y + 3) / 4)) (-1) := vf.rescale 1 (by omega) (by omega)
  obtain ⟨e, he, ve⟩ := add_at vd vf' (by omega) (by omega) (by omega)
  have ho : FloatKind.f64.format.order x 4654676923073429504 = some .lt := by
    rw [order_at hx k1583]
    simp [compare, compareOfLessAndEq, h2]
  refine ⟨e, by unfold S2; rw [if_pos h2]; exact ve, fun w => ?_⟩
  have r1 := run_fl .add ha
  have r2 := run_fl .quo hb
  have r3 := run_fl .mul hc
  have r4 := run_fl .add hd
  have r5 := run_fl .add he
  clear ha hb hc hd he vc vc' vd vf' ve vf hx
  go_enter Yba.func16, Yba.ntmps16
  go_wp2_with (go_at_call 14; refine (floor_any vb _).mono ?_; rintro e w' ⟨rfl, rfl⟩)
  go_ret
  exact ⟨rfl, rfl⟩

theorem yearStart_gre {x : Nat} {y : Int} (hx : At x y 0) (h1 : 1583 ≤ y) (h2 : y ≤ 2000000) :
    ∃ z, At z (S2 y) (-1) ∧ ∀ w : World, Calls Yba.prog 16 #[.float .f64 x] w fun e w' => e = .returned (.float .f64 z) ∧ w' = w := by
  obtain ⟨a, b, ha, hb, ⟨bn, bq, vb⟩, vf⟩ := leap_at hx (by omega) h2
  obtain ⟨c, hc, vc⟩ := mul_at k365 hx (by omega) (by omega) (by omega)
  have vc' : At c (730 * y) (-1) := vc.rescale 1 (by omega) (by omega)
  obtain ⟨d, hd, vd⟩ := add_at kGre vc' (by omega) (by omega) (by omega)
  have vf' : At (floorWord b) (2 * ((y + 3) / 4)) (-1) := vf.rescale 1 (by omega) (by omega)
  obtain ⟨e, he, ve⟩ := add_at vd vf' (by omega) (by omega) (by omega)
  obtain ⟨yn, rfl⟩ : ∃ yn : Nat, y = yn := ⟨y.toNat, by omega⟩
  obtain ⟨a1, ha1, va1⟩ := add_at hx k99 (by omega) (by omega) (by omega)
  obtain ⟨b1, hb1, ⟨n1, q1, vb1⟩, vf1⟩ := floor_div (a := yn + 99) (b := 100) (by simpa using va1) k100 (by omega) (by omega) (by omega) (by omega)
  obtain ⟨a2, ha2, va2⟩ := add_at hx k399 (by omega) (by omega) (by omega)
  obtain ⟨b2, hb2, ⟨n2, q2, vb2⟩, vf2⟩ := floor_div (a := yn + 399) (b := 400) (by simpa using va2) k400 (by omega) (by omega) (by omega) (by omega)
  have vf1' : At (floorWord b1) (2 * (((yn : Int) + 99) / 100)) (-1) := vf1.rescale 1 (by omega) (by omega)
  have vf2' : At (floorWord b2) (2 * (((yn : Int) + 399) / 400)) (-1) := vf2.rescale 1 (by omega) (by omega)
  obtain ⟨f, hf, vf3⟩ := sub_at ve vf1' (by omega) (by omega) (by omega)
  obtain ⟨g, hg, vg⟩ := add_at vf3 vf2' (by omega) (by omega) (by omega)
  have ho : (FloatKind.f64.format.order x 4654676923073429504 == some .lt) = false := by
    rw [order_at hx k1583]
    have : ¬ (yn : Int) < 1583 := by omega
    simp only [compare, compareOfLessAndEq, this, if_false]
    split <;> rfl
  refine ⟨g, by unfold S2; rw [if_neg (by omega)]; exact vg, fun w => ?_⟩
  have r1 := run_fl .add ha
  have r2 := run_fl .quo hb
  have r3 := run_fl .mul hc
  have r4 := run_fl .add hd
  have r5 := run_fl .add he
  have r6 := run_fl .add ha1
  have r7 := run_fl .quo hb1
  have r8 := run_fl .add ha2
  have r9 := run_fl .quo hb2
  have r10 := run_fl .sub hf
  have r11 := run_fl .add hg
  clear ha hb hc hd he vc vc' vd vf' ve vf hx ha1 hb1 ha2 hb2 hf hg va1 va2 vf1 vf2 vf1' vf2' vf3 vg
  go_enter Yba.func16, Yba.ntmps16
  go_wp2_with fail
  refine (floor_any vb _).mono ?_
  rintro e w' ⟨rfl, rfl⟩
  go_wp2_with fail
  refine (floor_any vb1 _).mono ?_
  rintro e w' ⟨rfl, rfl⟩
  go_wp2_with fail
  refine (floor_any vb2 _).mono ?_
  rintro e w' ⟨rfl, rfl⟩
  go_wp2_with fail
  go_ret
  exact ⟨rfl, rfl⟩

theorem yearStart_any {x : Nat} {y : Int} (hx : At x y 0) (h1 : -2000000 ≤ y) (h2 : y ≤ 2000000) :
    ∃ z, At z (S2 y) (-1) ∧ ∀ w : World, Calls Yba.prog 16 #[.float .f64 x] w fun e w' => e = .returned (.float .f64 z) ∧ w' = w := by
  by_cases h : y < 1583
  · exact yearStart_jul hx h1 h
  · exact yearStart_gre hx (by omega) h2

/-- julianDayOfYear(a / 1024), in 2048ths of a day. -/
def JD (a : Int) : Int := S2 (a / 1024) * 1024 + (a % 1024) * (S2 (a / 1024 + 1) - S2 (a / 1024))

theorem julian_any {x : Nat} {a : Int} (hx : At x a (-10)) (h1 : -1100000000 ≤ a) (h2 : a ≤ 1100000000) :
    ∃ z, At z (JD a) (-11) ∧ ∀ w : World, Calls Yba.prog 8 #[.float .f64 x] w fun e w' => e = .returned (.float .f64 z) ∧ w' = w := by
  have hq : -1100000 ≤ a / 1024 ∧ a / 1024 ≤ 1100000 := by omega
  have vf := floor_at (s := 10) hx (by simp; omega)
  have vf : At (floorWord x) (a / 1024) 0 := by simpa using vf
  generalize hqq : a / 1024 = q at *
  have hrr : a % 1024 = a - 1024 * q := by omega
  generalize hr : a % 1024 = r at *
  have hr01 : 0 ≤ r ∧ r < 1024 := by omega
  obtain ⟨s, vs, cs⟩ := yearStart_any vf (by omega) (by omega)
  have vf' : At (floorWord x) (1024 * q) (-10) := vf.rescale 10 (by omega) (by omega)
  obtain ⟨b, hb, vb⟩ := sub_at hx vf' (by omega) (by omega) (by omega)
  obtain ⟨c, hc, vc⟩ := add_at vf k1 (by omega) (by omega) (by omega)
  obtain ⟨s', vs', cs'⟩ := yearStart_any vc (by omega) (by omega)
  have hstep := S2_step q
  have hd : daysOf q = 365 ∨ daysOf q = 366 ∨ daysOf q = 355 := by unfold daysOf; split <;> split <;> (try split) <;> omega
  have hSb := S2_bound q (by omega) (by omega)
  generalize hS : S2 q = S at *
  generalize hS' : S2 (q + 1) = S' at *
  obtain ⟨d, hd', vd⟩ := sub_at vs' vs (by omega) (by omega) (by omega)
  have hbr : a - 1024 * q = r := by omega
  rw [hbr] at vb
  have hprod : (r * (S' - S)).natAbs < 2000000 := by
    rw [hstep, Int.natAbs_mul]
    have e1 : (2 * daysOf q).natAbs ≤ 732 := by rcases hd with h | h | h <;> rw [h] <;> decide
    have e2 : r.natAbs ≤ 1023 := by omega
    have := Nat.mul_le_mul e2 e1
    omega
  obtain ⟨e, he, ve⟩ := mul_at vb vd (by omega) (by omega) (by omega)
  have ve' : At e (r * (S' - S)) (-11) := ve
  have vs2 : At s (S * 1024) (-11) := vs.rescale 10 (by omega) (by omega)
  obtain ⟨f, hf, vf2⟩ := add_at vs2 ve' (by omega) (by omega) (by omega)
  refine ⟨f, ?_, fun w => ?_⟩
  · unfold JD
    rw [hqq, hr, hS, hS']; exact vf2
  · have r1 := run_fl .sub hb
    have r2 := run_fl .add hc
    have r3 := run_fl .sub hd'
    have r4 := run_fl .mul he
    have r5 := run_fl .add hf
    clear hb hc hd' he hf vf2 ve ve' vs2 vd vb vc vf' vs vs' vf hprod hSb hd hstep hS hS' hbr hr hrr hqq hr01
    go_enter Yba.func8, Yba.ntmps8
    go_wp2_with fail
    refine (floor_any hx _).mono ?_
    rintro e w' ⟨rfl, rfl⟩
    go_wp2_with fail
    refine (cs _).mono ?_
    rintro e w' ⟨rfl, rfl⟩
    go_wp2_with fail
    refine (cs' _).mono ?_
    rintro e w' ⟨rfl, rfl⟩
    go_wp2_with fail
    go_ret
    exact ⟨rfl, rfl⟩

theorem tmod_zero (n k : Int) : n.tmod k = 0 ↔ n % k = 0 :=
  ⟨fun h => Int.emod_eq_zero_of_dvd (Int.dvd_of_tmod_eq_zero h), fun h => Int.tmod_eq_zero_of_dvd (Int.dvd_of_emod_eq_zero h)⟩

set_option linter.unusedVariables false in
/-- zzs2197bdays. -/
theorem days_any (n : Int) (h1 : -1000000 ≤ n) (h2 : n ≤ 1000000) :
    ∃ z, At z (daysOf n) 0 ∧ ∀ w : World, Calls Yba.prog 9 #[.int .i64 n] w fun e w' => e = .returned (.float .f64 z) ∧ w' = w := by
  by_cases c1 : n < 1582
  · by_cases c2 : n % 4 = 0
    · have hb : (n.tmod 4 == 0) = true := by rw [beq_iff_eq]; exact (tmod_zero n 4).2 c2
      refine ⟨4645146356283867136, by unfold daysOf; rw [if_pos c1, if_pos c2]; exact k366, fun w => ?_⟩
      go_enter Yba.func9, Yba.ntmps9
      go_wp2
      go_ret
      exact ⟨rfl, rfl⟩
    · have hb : (n.tmod 4 == 0) = false := by rw [beq_eq_false_iff_ne]; exact fun h => c2 ((tmod_zero n 4).1 h)
      refine ⟨4645128764097822720, by unfold daysOf; rw [if_pos c1, if_neg c2]; exact k365, fun w => ?_⟩
      go_enter Yba.func9, Yba.ntmps9
      go_wp2
      go_ret
      exact ⟨rfl, rfl⟩
  · have c1' : 1582 ≤ n := by omega
    by_cases c5 : n = 1582
    · have hb : (n == 1582) = true := by rw [beq_iff_eq]; exact c5
      subst c5
      refine ⟨4644952842237378560, by unfold daysOf; rw [if_neg c1, if_pos rfl]; exact k355, fun w => ?_⟩
      go_enter Yba.func9, Yba.ntmps9
      go_wp2
      go_ret
      exact ⟨rfl, rfl⟩
    · have hb0 : (n == 1582) = false := by rw [beq_eq_false_iff_ne]; exact c5
      by_cases c2 : n % 4 = 0
      · have hb : (n % 4 == 0) = true := by rw [beq_iff_eq]; exact c2
        by_cases c3 : n % 100 = 0
        · have hb3 : (n % 100 != 0) = false := by simp [c3]
          by_cases c4 : n % 400 = 0
          · have hb4 : (n % 400 == 0) = true := by rw [beq_iff_eq]; exact c4
            refine ⟨4645146356283867136, by unfold daysOf; rw [if_neg c1, if_neg c5, if_pos ⟨c2, .inr c4⟩]; exact k366, fun w => ?_⟩
            clear c2 c3 c4
            go_enter Yba.func9, Yba.ntmps9
            go_wp2
            go_ret
            exact ⟨rfl, rfl⟩
          · have hb4 : (n % 400 == 0) = false := by rw [beq_eq_false_iff_ne]; exact c4
            refine ⟨4645128764097822720, by unfold daysOf; rw [if_neg c1, if_neg c5, if_neg (by omega)]; exact k365, fun w => ?_⟩
            clear c2 c3 c4
            go_enter Yba.func9, Yba.ntmps9
            go_wp2
            go_ret
            exact ⟨rfl, rfl⟩
        · have hb3 : (n % 100 != 0) = true := by rw [bne_iff_ne]; exact c3
          refine ⟨4645146356283867136, by unfold daysOf; rw [if_neg c1, if_neg c5, if_pos ⟨c2, .inl c3⟩]; exact k366, fun w => ?_⟩
          clear c2 c3
          go_enter Yba.func9, Yba.ntmps9
          go_wp2
          go_ret
          exact ⟨rfl, rfl⟩
      · have hb : (n % 4 == 0) = false := by rw [beq_eq_false_iff_ne]; exact c2
        refine ⟨4645128764097822720, by unfold daysOf; rw [if_neg c1, if_neg c5, if_neg (by omega)]; exact k365, fun w => ?_⟩
        clear c2
        go_enter Yba.func9, Yba.ntmps9
        go_wp2
        go_ret
        exact ⟨rfl, rfl⟩
end Go.Proofs.Ybulkasma
