/-
  'Rows.LawS2197AHalfYearCardSaid', proved: the row (its one listed variable opened, YbulkasmaDoorLaid), then the tied card by the builder's one call.
-/
import Derived.Test.YbulkasmaDoorRows
import Derived.Test.YbulkasmaDoorTie
import Derived.Test.YbulkasmaDoorCards
import Derived.Test.YbulkasmaDoorLaid
import Derived.Test.YbulkasmaDoorDateWalks
import Derived.ProofKit
import Derived.OpenShut
import Derived.SevenTiedAt
namespace Go.Proofs.YbulkasmaDoor.lawS2197AHalfYear
open Go.ChangeShapes Go.WideShapes Go.ChangeAt Go.RowKit
open Fl
set_option linter.unusedVariables false

theorem kHalf : At 4602678819172646912 1 (-1) := by
  refine ⟨false, 4503599627370496, -53, by decide +kernel, -1074, by decide, by decide, ?_⟩
  unfold Fl.EqAt sg; decide +kernel
theorem add_half (k : Int) (h : k.natAbs < 549755813888) : floatBits .add .f64 (floatOfInt .f64 k) 4602678819172646912 = some (fl (2 * k + 1)) := by
  have h1 : At (floatOfInt .f64 k) (2 * k) (-1) := (ofInt_at k (by omega)).rescale 1 (by omega) (by omega)
  obtain ⟨r, hr, hv⟩ := DV.sum h1 kHalf
  show ((Ieee.double.read (floatOfInt .f64 k)).sum (Ieee.double.read 4602678819172646912)).map Ieee.double.write = _
  rw [hr]
  show some (Ieee.double.write r) = _
  rw [write_fl hv (by omega) (by omega)]
theorem half_date (k : Int) (j : Nat) (d : Int) : dateB (2 * k + 1) j d = (decide (1 ≤ d) && decide (d ≤ mdays j)) := by
  have hl : leapB (2 * k + 1) = false := by
    unfold leapB
    split
    · simp; omega
    · simp; omega
  unfold dateB lastI
  rw [if_neg (fun h => by omega), if_neg (fun h => by rw [hl] at h; exact Bool.noConfusion h.2)]

set_option maxRecDepth 100000 in
set_option maxHeartbeats 1000000 in
theorem walk (a0 a1 d : Int) (w0 : (Lit.int .i32 a0).wf = true) (w1 : (Lit.int .u8 a1).wf = true) (w2 : (Lit.int .i64 d).wf = true) (w : World) (hT : Tab w) :
    Calls Ybad.prog 4 #[.int .i32 a0, .int .u8 a1, .int .i64 d] w fun e w' => e = .returned (.bool true) ∧ Below w.heap.size w w' := by
  obtain ⟨r0, r1⟩ := bounds_i32 w0
  obtain ⟨u0, u1⟩ := bounds_u8 w1
  obtain ⟨j, hja, hj⟩ : ∃ j : Nat, a1 % 12 = (j : Int) ∧ j < 12 := ⟨(a1 % 12).toNat, by omega, by omega⟩
  have hadd : ∀ w : World, (binOp .add 24 (.float .f64 (floatOfInt .f64 a0)) (.float .f64 4602678819172646912)).run Ybad.prog w = .ok (.float .f64 (fl (2 * a0 + 1))) w := fun w => run_float_arith w .add 24 .f64 _ _ _ (add_half a0 (by omega))
  have hX : (2 * a0 + 1).natAbs < 1099511627776 := by omega
  have hdb := half_date a0 j d
  by_cases hd1 : 1 ≤ d
  · have hda := date_any (2 * a0 + 1) hX j hj d (w.alloc comObj) (hT.alloc _)
    rw [hdb, show decide (1 ≤ d) = true by simp [hd1], Bool.true_and] at hda
    clear hdb hX
    go_enter Ybad.func4, Ybad.ntmps4
    go_wp2_with (first
      | (go_at_call 5; refine (common_any j hj _).mono ?_; rintro e w' ⟨rfl, rfl⟩)
      | (go_at_call 6; refine hda.mono ?_; rintro e w' ⟨rfl, rfl⟩))
    go_ret
    exact ⟨by simp, (Below.refl _ _).alloc (Nat.le_refl _) _⟩
  · have hda := date_any (2 * a0 + 1) hX j hj d w hT
    rw [hdb, show decide (1 ≤ d) = false by simp; omega, Bool.false_and] at hda
    clear hdb hX
    go_enter Ybad.func4, Ybad.ntmps4
    go_wp2_with (go_at_call 6; refine hda.mono ?_; rintro e w' ⟨rfl, rfl⟩)
    go_ret
    exact ⟨by simp, Below.refl _ _⟩

/-! ### The row's step -/
set_option maxRecDepth 100000 in
theorem lifted (os : Os) (started : os.Started) (H : Type) (enc : TypeId × Value → H) :
    ReturnsInHanded {} Ybad.checked os 4 .any (fun w args => (Rows.lawS2197AHalfYearSpec.pre enc Ybad.prog Ybad.f4 [] false w args ∧ laidMetH Ybad.prog laidL w) ∧ sizedMet enc Ybad.prog Ybad.f4 (OpenSpec.ofChange Rows.lawS2197AHalfYearSpec) false w args)
      (Rows.lawS2197AHalfYearSpec.post enc Ybad.prog Ybad.f4 false true false false) := by
  refine returnsInHanded_of_change_and (C := Ybad.checked) (X := fun w _ => laidMetH Ybad.prog laidL w) (fun _ _ _ hh h => h.of_heap hh) own started (by kernel_rfl) Ybad.func4
    (ChangeSpec.witness_shaped (enc := enc) (C := Ybad.checked) (os := os) (X := fun w _ => laidMetH Ybad.prog laidL w) false (World.doorLaid Ybad.prog 400 os) #[.int .i32 0, .int .u8 0, .int .i64 0] 8 rfl (World.shaped_of_RefB (by kernel_rfl) (by kernel_rfl)) (by kernel_rfl) (by kernel_rfl) (by kernel_rfl) (door_met os _)) ?_
  intro W base args ds gs before hval0 hW _ _ hL _
  have hval : ∀ (j : Nat) t v, Ybad.f4.params[j]? = some t → args[j]? = some v → Value.okWide Ybad.prog W .any base t v := hval0
  have hW' := hW
  obtain ⟨p, q, hA0, hV, rfl, hfz, hnd⟩ := hW
  have hA : DataW.TrodAll enc Ybad.prog W 0 (fun _ => true) true Ybad.f4.params.toList args.toList ds p := hA0
  have hV' : DataW.TrodVars enc Ybad.prog W (fun _ => true) [vn] gs q := hV
  rw [Ybad.params4] at hA hval
  obtain ⟨v0, vs0, d0, ds0, p0, q0, hargs, rfl, rfl, h0, r0⟩ := trodAll_cons hA
  obtain ⟨v1, vs1, d1, ds1, p1, q1, rfl, rfl, rfl, h1, r1⟩ := trodAll_cons r0
  obtain ⟨v2, vs2, d2, ds2, p2, q2, rfl, rfl, rfl, h2, r2⟩ := trodAll_cons r1
  obtain ⟨rfl, rfl, rfl⟩ := trodAll_nil r2
  obtain rfl : args = #[v0, v1, v2] := by cases args; simp_all
  obtain ⟨a0, rfl, rfl, rfl, w0⟩ := open_int Ybad.underlying21 (hval 0 21 v0 rfl rfl) h0
  obtain ⟨a1, rfl, rfl, rfl, w1⟩ := open_int Ybad.underlying5 (hval 1 5 v1 rfl rfl) h1
  obtain ⟨a2, rfl, rfl, rfl, w2⟩ := open_int Ybad.underlying3 (hval 2 3 v2 rfl rfl) h2
  have hT := of_laid hL
  obtain ⟨gd, rfl⟩ : ∃ gd, gs = [gd] := by
    obtain ⟨g, t, cs, fuel, d, p', rfl, _⟩ := trodVars_one hV'
    exact ⟨d, rfl⟩
  clear hA0 hval0
  refine (walk a0 a1 a2 w0 w1 w2 W hT).mono fun e W' ⟨he, bel⟩ => ?_
  subst he
  exact ⟨_, rfl, _, _, _, [], _, _, hW', trodAll_mk1 (shut_bool Ybad.underlying4 _), (trodAll_cons_mk (shut_int Ybad.underlying21 w0) (trodAll_cons_mk (shut_int Ybad.underlying5 w1) (trodAll_cons_mk (shut_int Ybad.underlying3 w2) trodAll_mk0))),
    Below.trodVars laidOut bel (by kernel_rfl) hV', bel.frame _, fun h => by cases h⟩

theorem row_holds : Rows.LawS2197AHalfYearSaid :=
  OpenClaim.holds_of_wide 4 Ybad.f4 rfl rfl rfl rfl rfl rfl rfl ⟨rfl, rfl, rfl, rfl, rfl⟩ rfl rfl rfl rfl rfl (by kernel_rfl) Ybad.func4 (by kernel_rfl)
    (of_decide_eq_true (by kernel_rfl)) (by unfold Func.isWrapper; first | (rw [if_pos (by decide +kernel)]; kernel_rfl) | (rw [if_neg (by decide +kernel)]; exact ⟨rfl, rfl⟩))
    (fun os started H enc _ => lifted os started H enc)

/-- ████ THE STATEMENT: THE TIED CARD ████ -/
theorem proved : Rows.LawS2197AHalfYearCardSaid :=
  Claim7.holds_tied_plain_at .later [] [.data] true (true, "b0cb61efe31e1796b89bcf8b219b4a3351a418fead3b57c21a0cb18db5db566d") false
    row_holds (fun _ h => by cases h) (by kernel_rfl) (fun _ h => by cases h) lawS2197AHalfYear_row_tie rfl ⟨rfl, rfl⟩ (by kernel_rfl) rfl
    (fun f fn hf hfn => by
      obtain rfl : f = 4 := Option.some.inj ((show Ybad.prog.funcNamed Rows.lawS2197AHalfYearRow.func = some 4 by kernel_rfl).symm.trans hf) |>.symm
      obtain rfl : fn = Ybad.f4 := (Option.some.inj (Ybad.func4.symm.trans hfn)).symm
      exact ⟨by kernel_rfl, fun j t ht => by
        rw [Ybad.params4] at ht
        have hm : t ∈ [21, 5, 3] := by simpa using Array.mem_of_getElem? ht
        have hall : ([21, 5, 3].all fun u => !Ybad.prog.wantsStandIn u) = true := by kernel_rfl
        exact (show Ybad.prog.wantsStandIn t = false by simpa using List.all_eq_true.1 hall t hm)⟩)
    (by kernel_rfl)
end Go.Proofs.YbulkasmaDoor.lawS2197AHalfYear
