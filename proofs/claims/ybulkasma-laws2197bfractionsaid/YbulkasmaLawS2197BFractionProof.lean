/-
  'Rows.LawS2197BFractionSaid', proved: the row's step by the kit's tool, the walk by hand over YbulkasmaYearWalks.
-/
import Derived.Test.YbulkasmaRows
import Derived.Test.YbulkasmaYearWalks
import Derived.WalkKit
import Derived.ProofKit
import Derived.OpenShut
import Derived.ShutString
namespace Go.Proofs.Ybulkasma.lawS2197BFraction
open Go.ChangeShapes Go.WideShapes Go.ChangeAt Go.RowKit
open Go.ChangeMaps (open_string shut_string)
open Fl
set_option linter.unusedVariables false      -- a walk need not use every 'w<i>' (that an integer argument fits its kind)

theorem own : ownKnob Yba.prog.godebug = none := by kernel_rfl

theorem order_eq {x y : Nat} {a q : Int} (hx : At x a q) (hy : At y a q) : FloatKind.f64.format.order x y = some .eq := by
  rw [order_at hx hy]; simp [compare, compareOfLessAndEq]

theorem JD_part (n m : Int) (h1 : 0 ≤ m) (h2 : m < 1024) : JD (n * 1024 + m) = S2 n * 1024 + m * (S2 (n + 1) - S2 n) := by
  unfold JD
  rw [show (n * 1024 + m) / 1024 = n by omega, show (n * 1024 + m) % 1024 = m by omega]

set_option maxHeartbeats 400000 in
theorem walk (a0 : Int) (a1 : Int) (w0 : (Lit.int .i64 a0).wf = true) (w1 : (Lit.int .u16 a1).wf = true) (w : World) :
    Calls Yba.prog 4 #[.int .i64 a0, .int .u16 a1] w fun e w' => e = .returned (.bool true) ∧ Grown w w' := by
  obtain ⟨u1, u2⟩ := bounds_u16 w1
  by_cases c1 : a0 < -1000000
  · go_enter Yba.func4, Yba.ntmps4
    go_wp2
    go_ret
    exact ⟨rfl, Grown.refl _⟩
  by_cases c2 : 1000000 < a0
  · go_enter Yba.func4, Yba.ntmps4
    go_wp2
    go_ret
    exact ⟨rfl, Grown.refl _⟩
  have c1' : -1000000 ≤ a0 := by omega
  have c2' : a0 ≤ 1000000 := by omega
  have hm : 0 ≤ a1 % 1024 ∧ a1 % 1024 < 1024 := by omega
  have hfi := ofInt_at (a1 % 1024) (by omega)
  generalize hmm : a1 % 1024 = m at hm hfi
  obtain ⟨f, hf, vf⟩ := div_at (c := m) (t := -10) hfi k1024 (by omega) (-10) (by omega) (by omega) (by simp) (by omega) (by omega) (by omega)
  have vn : At (floatOfInt .f64 a0) (a0 * 1024) (-10) := (ofInt_at a0 (by omega)).rescale 10 (by omega) (by omega)
  obtain ⟨y, hy, vy⟩ := add_at vn vf (by omega) (by omega) (by omega)
  obtain ⟨g, vg, jg⟩ := julian_any vy (by omega) (by omega)
  rw [JD_part a0 m hm.1 hm.2, S2_step] at vg
  obtain ⟨s, vs, js⟩ := julian_any vn (by omega) (by omega)
  have hJ := JD_part a0 0 (by omega) (by omega)
  rw [Int.add_zero, Int.zero_mul, Int.add_zero] at hJ
  rw [hJ] at vs
  obtain ⟨zd, vd, jd⟩ := days_any a0 c1' c2'
  have hb := S2_bound a0 (by omega) (by omega)
  have hdd : daysOf a0 = 365 ∨ daysOf a0 = 366 ∨ daysOf a0 = 355 := by unfold daysOf; split <;> split <;> (try split) <;> omega
  generalize daysOf a0 = D at *
  have hprod : -1000000 ≤ m * D ∧ m * D ≤ 1000000 := by rcases hdd with h | h | h <;> rw [h] <;> omega
  obtain ⟨p, hp, vp⟩ := mul_at vf vd (by omega) (by omega) (by omega)
  have vp' : At p (m * (2 * D)) (-11) := vp.rescale 1 (by rw [Int.mul_left_comm]; omega) (by omega)
  have hprod2 : m * (2 * D) = 2 * (m * D) := Int.mul_left_comm _ _ _
  obtain ⟨t, ht, vt⟩ := add_at vs vp' (by omega) (by omega) (by omega)
  have o1 := order_eq vg vt
  have r1 := run_fl .quo hf
  have r2 := run_fl .add hy
  have r3 := run_fl .mul hp
  have r4 := run_fl .add ht
  clear hf hy hp ht vt vp vp' hprod hprod2 hdd hb vd vs hJ vg vy vn vf hfi w0 w1
  go_enter Yba.func4, Yba.ntmps4
  go_wp2_with fail
  refine (jg _).mono ?_
  rintro e w' ⟨rfl, rfl⟩
  go_wp2_with fail
  refine (js _).mono ?_
  rintro e w' ⟨rfl, rfl⟩
  go_wp2_with fail
  refine (jd _).mono ?_
  rintro e w' ⟨rfl, rfl⟩
  go_wp2_with fail
  go_ret
  exact ⟨rfl, Grown.refl _⟩

/-! ### THE ROW's STEP: WRITTEN OUT: LEAVE IT -/
set_option maxRecDepth 100000 in
theorem lifted (os : Os) (started : os.Started) (H : Type) (enc : TypeId × Value → H) :
    ReturnsInHanded {} Yba.checked os 4 .any (Rows.lawS2197BFractionSpec.pre6 enc Yba.prog Yba.f4 Rows.lawS2197BFractionRow.domain false) (Rows.lawS2197BFractionSpec.post enc Yba.prog Yba.f4 false true false false) := by
  refine returnsInHanded_of_change (C := Yba.checked) own started (by kernel_rfl) Yba.func4
    (ChangeSpec.witness6 (enc := enc) (C := Yba.checked) false ⟨#[], #[.int .i64 0, .int .u16 0], []⟩ 8 (by kernel_rfl) (by kernel_rfl) (by kernel_rfl) (by kernel_rfl)) ?_
  intro W base args ds gs before hval0 hW hcnd _
  have hval : ∀ (j : Nat) t v, Yba.f4.params[j]? = some t → args[j]? = some v → Value.okWide Yba.prog W .any base t v := hval0
  have hW' := hW
  obtain ⟨p, q, hA0, hV, rfl, hfz, hnd⟩ := hW
  have hA : DataW.TrodAll enc Yba.prog W 0 (fun _ => true) true Yba.f4.params.toList args.toList ds p := hA0
  rw [Yba.params4] at hA hval
  obtain ⟨v0, vs0, d0, ds0, p0, q0, hargs, rfl, rfl, h0, r0⟩ := trodAll_cons hA
  obtain ⟨v1, vs1, d1, ds1, p1, q1, rfl, rfl, rfl, h1, r1⟩ := trodAll_cons r0
  obtain ⟨rfl, rfl, rfl⟩ := trodAll_nil r1
  obtain rfl : args = #[v0, v1] := by cases args; simp_all
  obtain ⟨rfl, rfl⟩ := trodVars_none hV
  obtain ⟨a0, rfl, rfl, rfl, w0⟩ := open_int Yba.underlying2 (hval 0 2 v0 rfl rfl) h0
  obtain ⟨a1, rfl, rfl, rfl, w1⟩ := open_int Yba.underlying26 (hval 1 26 v1 rfl rfl) h1
  clear hA0 hval0
  simp only [List.append_nil] at hW'
  refine (walk a0 a1 w0 w1 W).mono fun e W' ⟨he, hg⟩ => ?_
  subst he
  exact ⟨_, rfl, post_of_same (pa := []) (pv := []) hW' (fun _ _ _ => (trodAll_cons_mk (shut_bool Yba.underlying4 _) trodAll_mk0)) (fun sp _ => (trodAll_cons_mk (shut_int Yba.underlying2 w0) (trodAll_cons_mk (shut_int Yba.underlying26 w1) trodAll_mk0))) (fun _ _ => rfl) rfl
    (hg.frame _) hg.2.1 (ok_one (by kernel_rfl) rfl (okWide_bool_mk Yba.underlying4 _))⟩

theorem over : Rows.lawS2197BFractionRow.holds Yba.pinned (OpenSpec.ofChange Rows.lawS2197BFractionSpec) :=
  OpenClaim.holds_of_wide 4 Yba.f4 rfl rfl rfl rfl rfl rfl rfl ⟨rfl, rfl, rfl, rfl, rfl⟩ rfl rfl rfl rfl rfl (by kernel_rfl) Yba.func4 (by kernel_rfl)
    (of_decide_eq_true (by kernel_rfl)) (by unfold Func.isWrapper; first | (rw [if_pos (by decide +kernel)]; kernel_rfl) | (rw [if_neg (by decide +kernel)]; exact ⟨rfl, rfl⟩))
    (fun os started H enc _ => lifted os started H enc)

/-- ████ THE STATEMENT ████ -/
theorem proved : Rows.LawS2197BFractionSaid :=
  over
end Go.Proofs.Ybulkasma.lawS2197BFraction
