/-
  'Rows.LawS2197BYearLengthSaid', proved: the row's step by the kit's tool, the walk by hand over YbulkasmaYearWalks.
-/
import Derived.Test.YbulkasmaRows
import Derived.Test.YbulkasmaYearWalks
import Derived.WalkKit
import Derived.ProofKit
import Derived.OpenShut
import Derived.ShutString
namespace Go.Proofs.Ybulkasma.lawS2197BYearLength
open Go.ChangeShapes Go.WideShapes Go.ChangeAt Go.RowKit
open Go.ChangeMaps (open_string shut_string)
open Fl
set_option linter.unusedVariables false      -- a walk need not use every 'w<i>' (that an integer argument fits its kind)

theorem own : ownKnob Yba.prog.godebug = none := by kernel_rfl

theorem order_eq {x y : Nat} {a q : Int} (hx : At x a q) (hy : At y a q) : FloatKind.f64.format.order x y = some .eq := by
  rw [order_at hx hy]; simp [compare, compareOfLessAndEq]

theorem JD_whole (n : Int) : JD (n * 1024) = S2 n * 1024 := by
  unfold JD
  rw [Int.mul_ediv_cancel _ (by decide), Int.mul_emod_left]; omega

/-- julianDayOfYear at a whole year, in half days. -/
theorem julian_whole {x : Nat} {n : Int} (hx : At x n 0) (h1 : -1000001 ≤ n) (h2 : n ≤ 1000001) :
    ∃ z, At z (S2 n) (-1) ∧ ∀ w : World, Calls Yba.prog 8 #[.float .f64 x] w fun e w' => e = .returned (.float .f64 z) ∧ w' = w := by
  obtain ⟨z, hz, hc⟩ := julian_any (a := n * 1024) (hx.rescale 10 (by omega) (by omega)) (by omega) (by omega)
  rw [JD_whole] at hz
  exact ⟨z, At.descale 10 hz rfl rfl, hc⟩

set_option maxHeartbeats 400000 in
theorem walk (a0 : Int) (w0 : (Lit.int .i64 a0).wf = true) (w : World) :
    Calls Yba.prog 3 #[.int .i64 a0] w fun e w' => e = .returned (.bool true) ∧ Grown w w' := by
  by_cases c1 : a0 < -1000000
  · go_enter Yba.func3, Yba.ntmps3
    go_wp2
    go_ret
    exact ⟨rfl, Grown.refl _⟩
  by_cases c2 : 1000000 < a0
  · go_enter Yba.func3, Yba.ntmps3
    go_wp2
    go_ret
    exact ⟨rfl, Grown.refl _⟩
  have c1' : -1000000 ≤ a0 := by omega
  have c2' : a0 ≤ 1000000 := by omega
  obtain ⟨z0, v0, j0⟩ := julian_whole k2000 (by omega) (by omega)
  have o0 := order_eq v0 (show At 4702519063073521664 (S2 2000) (-1) from kJ2000)
  obtain ⟨z1, v1, j1⟩ := julian_whole (ofInt_at a0 (by omega)) (by omega) (by omega)
  obtain ⟨z2, v2, j2⟩ := julian_whole (ofInt_at (a0 + 1) (by omega)) (by omega) (by omega)
  obtain ⟨zd, vd, jd⟩ := days_any a0 c1' c2'
  have hb := S2_bound a0 (by omega) (by omega)
  have hst := S2_step a0
  have hdd : daysOf a0 = 365 ∨ daysOf a0 = 366 ∨ daysOf a0 = 355 := by unfold daysOf; split <;> split <;> (try split) <;> omega
  obtain ⟨h, hodd⟩ := S2_odd a0
  rw [hodd] at v1 hb
  obtain ⟨d, hd, vd'⟩ := sub_at v1 kHalf (by omega) (by omega) (by omega)
  have vh : At d h 0 := At.descale 1 vd' (by omega) (by omega)
  have hti := toInt_at vh (by omega) (by omega)
  have hcv : ∀ w : World, (convert 22 2 (.float .f64 d)).run Yba.prog w = .ok (.int .i64 h) w := fun w => run_convert_float_int w 22 2 .f64 .i64 _ _ (by kernel_rfl) Yba.underlying2 hti
  have vfh := ofInt_at h (by omega)
  have vfh' : At (floatOfInt .f64 h) (2 * h) (-1) := vfh.rescale 1 (by omega) (by omega)
  obtain ⟨e, he, ve⟩ := sub_at v1 vfh' (by omega) (by omega) (by omega)
  have ve' : At e 1 (-1) := by
    rw [show 2 * h + 1 - 2 * h = 1 by omega] at ve; exact ve
  have o1 := order_eq ve' kHalf
  obtain ⟨f, hf, vf⟩ := sub_at v2 v1 (by omega) (by omega) (by omega)
  have vf' : At f (daysOf a0) 0 := At.descale 1 vf (by omega) (by omega)
  have o2 := order_eq vf' vd
  have r1 := run_fl .sub hd
  have r2 := run_fl .sub he
  have r3 := run_fl .sub hf
  clear hd he hf vf vf' ve ve' vfh vfh' hti vh vd' v1 v2 v0 vd hodd hb hdd hst w0
  go_enter Yba.func3, Yba.ntmps3
  go_wp2_with fail
  refine (j0 _).mono ?_
  rintro e w' ⟨rfl, rfl⟩
  go_wp2_with fail
  refine (j1 _).mono ?_
  rintro e w' ⟨rfl, rfl⟩
  go_wp2_with fail
  refine (j2 _).mono ?_
  rintro e w' ⟨rfl, rfl⟩
  go_wp2_with fail
  refine (jd _).mono ?_
  rintro e w' ⟨rfl, rfl⟩
  go_wp2_with fail
  go_ret
  exact ⟨rfl, Grown.refl _⟩

/-! ### THE ROW's STEP: WRITTEN OUT: LEAVE IT -/
set_option maxRecDepth 100000 in
theorem lifted (os : Os) (started : os.Started) (H : Type) (enc : TypeId × Value → H) :
    ReturnsInHanded {} Yba.checked os 3 .any (Rows.lawS2197BYearLengthSpec.pre6 enc Yba.prog Yba.f3 Rows.lawS2197BYearLengthRow.domain false) (Rows.lawS2197BYearLengthSpec.post enc Yba.prog Yba.f3 false true false false) := by
  refine returnsInHanded_of_change (C := Yba.checked) own started (by kernel_rfl) Yba.func3
    (ChangeSpec.witness6 (enc := enc) (C := Yba.checked) false ⟨#[], #[.int .i64 0], []⟩ 8 (by kernel_rfl) (by kernel_rfl) (by kernel_rfl) (by kernel_rfl)) ?_
  intro W base args ds gs before hval0 hW hcnd _
  have hval : ∀ (j : Nat) t v, Yba.f3.params[j]? = some t → args[j]? = some v → Value.okWide Yba.prog W .any base t v := hval0
  have hW' := hW
  obtain ⟨p, q, hA0, hV, rfl, hfz, hnd⟩ := hW
  have hA : DataW.TrodAll enc Yba.prog W 0 (fun _ => true) true Yba.f3.params.toList args.toList ds p := hA0
  rw [Yba.params3] at hA hval
  obtain ⟨v0, vs0, d0, ds0, p0, q0, hargs, rfl, rfl, h0, r0⟩ := trodAll_cons hA
  obtain ⟨rfl, rfl, rfl⟩ := trodAll_nil r0
  obtain rfl : args = #[v0] := by cases args; simp_all
  obtain ⟨rfl, rfl⟩ := trodVars_none hV
  obtain ⟨a0, rfl, rfl, rfl, w0⟩ := open_int Yba.underlying2 (hval 0 2 v0 rfl rfl) h0
  clear hA0 hval0
  simp only [List.append_nil] at hW'
  refine (walk a0 w0 W).mono fun e W' ⟨he, hg⟩ => ?_
  subst he
  exact ⟨_, rfl, post_of_same (pa := []) (pv := []) hW' (fun _ _ _ => (trodAll_cons_mk (shut_bool Yba.underlying4 _) trodAll_mk0)) (fun sp _ => (trodAll_cons_mk (shut_int Yba.underlying2 w0) trodAll_mk0)) (fun _ _ => rfl) rfl
    (hg.frame _) hg.2.1 (ok_one (by kernel_rfl) rfl (okWide_bool_mk Yba.underlying4 _))⟩

theorem over : Rows.lawS2197BYearLengthRow.holds Yba.pinned (OpenSpec.ofChange Rows.lawS2197BYearLengthSpec) :=
  OpenClaim.holds_of_wide 3 Yba.f3 rfl rfl rfl rfl rfl rfl rfl ⟨rfl, rfl, rfl, rfl, rfl⟩ rfl rfl rfl rfl rfl (by kernel_rfl) Yba.func3 (by kernel_rfl)
    (of_decide_eq_true (by kernel_rfl)) (by unfold Func.isWrapper; first | (rw [if_pos (by decide +kernel)]; kernel_rfl) | (rw [if_neg (by decide +kernel)]; exact ⟨rfl, rfl⟩))
    (fun os started H enc _ => lifted os started H enc)

/-- ████ THE STATEMENT ████ -/
theorem proved : Rows.LawS2197BYearLengthSaid :=
  over
end Go.Proofs.Ybulkasma.lawS2197BYearLength
