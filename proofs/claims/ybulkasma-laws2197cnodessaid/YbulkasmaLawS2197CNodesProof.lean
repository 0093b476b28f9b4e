/-
  'Rows.LawS2197CNodesSaid', proved: the row's step after the kit's tool (a slice of floats in the place of one of integers), the walk by hand over YbulkasmaInterpWalks.
-/
import Derived.Test.YbulkasmaRows
import Derived.Test.YbulkasmaInterpWalks
import Derived.Deep.Slices
import Derived.WalkKit
import Derived.ProofKit
import Derived.OpenShut
import Derived.ShutString
import Derived.ChangeOld
import Derived.Below
namespace Go.Proofs.Ybulkasma.lawS2197CNodes
open Go.ChangeShapes Go.WideShapes Go.ChangeAt Go.RowKit
open Fl
set_option linter.unusedVariables false

theorem own : ownKnob Yba.prog.godebug = none := by kernel_rfl
theorem laidOut : laidOutB Yba.prog = true := by kernel_rfl

/-- A float among the elements of what came in: its bits, below 2^64. -/
theorem float_of_trod {H : Type} {enc : TypeId × Value → H} {W : World} {base : Nat} {sp : Nat → Bool} {held : Bool} {n : Nat} {v : Value} {y : DataW H × List MemPlace} (h : DataW.trod enc Yba.prog W base sp held n 22 [v] = some y) :
    ∃ b, v = .float .f64 b ∧ b < 18446744073709551616 := by
  cases n with
  | zero => simp [DataW.trod] at h
  | succ n =>
    cases v <;> simp [DataW.trod, Yba.underlying22] at h
    rename_i k b
    obtain ⟨⟨hk, hw⟩, _⟩ := h
    subst hk
    exact ⟨b, rfl, by simpa [Lit.wf] using hw⟩

set_option maxRecDepth 100000 in
set_option maxHeartbeats 400000 in
theorem walk (a0 : Option Addr) (len0 cap0 : Nat) (z0 : Nat → Nat) (w : World) (w0 : IsRow w a0 len0 cap0 z0) (hm0 : len0 ≤ maxLen) :
    Calls Yba.prog 5 #[.slice a0 len0 cap0] w fun e w' => e = .returned (.bool true) ∧ Below w.heap.size w w' := by
  unfold maxLen at hm0
  by_cases hl : len0 ≤ 1024
  · have hd : decide ((1024 : Int) < len0) = false := by simp; omega
    go_enter Yba.func5, Yba.ntmps5
    go_wp2_with fail
    refine (pad_any a0 len0 cap0 z0 w w0 hl).mono ?_
    rintro e w1 ⟨N, hN4, hN, rfl, ys, hys, hfin, hheap, hb⟩
    clear w0
    subst hys
    go_wp2_with fail
    go_loopw [4] (fun k wr => ∃ i : Nat, i ≤ ys.length ∧ k = .int .i64 i ∧ wr.heap[w.heap.size]? = some (floats ys) ∧ Below w.heap.size w wr) (fun k _ => ys.length - (intOf k).toNat)
    case atStart => exact ⟨0, by omega, rfl, hheap, hb⟩
    case round =>
      obtain ⟨i, hi, rfl, hh, hb'⟩ := hrel
      clear hheap hb
      by_cases hlt : (i : Int) < ys.length
      · obtain ⟨z, ho, hc⟩ := interp_any ys w.heap.size i hN4 hN (by omega) hfin
        have hcell := floats_cell hh i (by omega)
        go_wp2_with fail
        go_quiet ((go_at_call 11; exact Calls.quiet_of (hc _ hh)))
        go_wp2_with fail
        go_roundw
        case rel => exact ⟨i + 1, by omega, by go_num, hh, ⟨hb'.os, hb'.tape, hb'.output, hb'.size, hb'.block⟩⟩
        case measure => simp [intOf]; omega
      · go_wp2_with fail
        go_ret
        exact ⟨rfl, hb'⟩
  · have hd : decide ((1024 : Int) < len0) = true := by simp; omega
    go_enter Yba.func5, Yba.ntmps5
    go_wp2_with fail
    go_ret
    exact ⟨rfl, Below.refl _ _⟩

/-! ### THE ROW's STEP: WRITTEN OUT: LEAVE IT -/
set_option maxRecDepth 100000 in
theorem lifted (os : Os) (started : os.Started) (H : Type) (enc : TypeId × Value → H) :
    ReturnsInHanded {} Yba.checked os 5 .any (Rows.lawS2197CNodesSpec.pre6 enc Yba.prog Yba.f5 Rows.lawS2197CNodesRow.domain false) (Rows.lawS2197CNodesSpec.post enc Yba.prog Yba.f5 false true false false) := by
  refine returnsInHanded_of_change (C := Yba.checked) own started (by kernel_rfl) Yba.func5
    (ChangeSpec.witness6 (enc := enc) (C := Yba.checked) false ⟨#[], #[.slice none 0 0], []⟩ 8 (by kernel_rfl) (by kernel_rfl) (by kernel_rfl) (by kernel_rfl)) ?_
  intro W base args ds gs before hval0 hW hcnd _
  have hval : ∀ (j : Nat) t v, Yba.f5.params[j]? = some t → args[j]? = some v → Value.okWide Yba.prog W .any base t v := hval0
  have hW' := hW
  obtain ⟨p, q, hA0, hV, rfl, hfz, hnd⟩ := hW
  have hA : DataW.TrodAll enc Yba.prog W 0 (fun _ => true) true Yba.f5.params.toList args.toList ds p := hA0
  rw [Yba.params5] at hA hval
  obtain ⟨v0, vs0, d0, ds0, p0, q0, hargs, rfl, rfl, h0, r0⟩ := trodAll_cons hA
  obtain ⟨rfl, rfl, rfl⟩ := trodAll_nil r0
  obtain rfl : args = #[v0] := by cases args; simp_all
  obtain ⟨rfl, rfl⟩ := trodVars_none hV
  obtain ⟨a0, len0, cap0, rfl⟩ := okWide_slice Yba.underlying28 (hval 0 28 v0 rfl rfl)
  have k0 := h0
  have lt0 : ∀ x ∈ p0, x.block < W.heap.size := by obtain ⟨m, hm⟩ := k0; exact DataW.trod_lt m _ _ _ hm
  obtain ⟨z0, w0, hm0⟩ : ∃ fs, IsRow W a0 len0 cap0 fs ∧ len0 ≤ maxLen := by
    obtain ⟨fuel, hf⟩ := h0
    rcases Go.Deep.open_slice1 Yba.underlying28 (by kernel_rfl) hf with ⟨hcs, _⟩ | ⟨x, l, c, m, n, V, D, Pl, hcs, _, hl, hm, hmm, _, hx⟩
    · simp [Value.cells] at hcs
      obtain ⟨rfl, rfl, rfl⟩ := hcs
      exact ⟨fun _ => 0, .inl ⟨rfl, rfl, rfl⟩, Nat.zero_le _⟩
    · simp [Value.cells] at hcs
      obtain ⟨rfl, rfl, rfl⟩ := hcs
      have hfl : ∀ i, ∃ b, i < len0 → W.cell? (x.add i) = some (.float .f64 b) ∧ b < 18446744073709551616 := fun i => by
        by_cases hi : i < len0
        · obtain ⟨h1, h2⟩ := hx i (by rw [hmm]; split <;> omega)
          obtain ⟨b, hb, hw⟩ := float_of_trod h2
          exact ⟨b, fun _ => ⟨by rw [h1, hb], hw⟩⟩
        · exact ⟨0, fun h => absurd h hi⟩
      exact ⟨fun i => Classical.choose (hfl i), .inr ⟨_, rfl, hl, hm, fun i hi => Classical.choose_spec (hfl i) hi⟩, Nat.le_trans hl hm⟩
  clear hA0 hval0
  refine (walk a0 len0 cap0 z0 W w0 hm0).mono fun e W' ⟨he, bel⟩ => ?_
  subst he
  exact ⟨_, rfl, _, _, _, [], _, [], hW', trodAll_mk1 (shut_bool Yba.underlying4 _), (trodAll_cons_mk (Below.trod laidOut (by kernel_rfl) (of_decide_eq_true (by kernel_rfl)) k0 bel lt0) trodAll_mk0), rfl, bel.frame _, fun h => by cases h⟩

theorem over : Rows.lawS2197CNodesRow.holds Yba.pinned (OpenSpec.ofChange Rows.lawS2197CNodesSpec) :=
  OpenClaim.holds_of_wide 5 Yba.f5 rfl rfl rfl rfl rfl rfl rfl ⟨rfl, rfl, rfl, rfl, rfl⟩ rfl rfl rfl rfl rfl (by kernel_rfl) Yba.func5 (by kernel_rfl)
    (of_decide_eq_true (by kernel_rfl)) (by unfold Func.isWrapper; first | (rw [if_pos (by decide +kernel)]; kernel_rfl) | (rw [if_neg (by decide +kernel)]; exact ⟨rfl, rfl⟩))
    (fun os started H enc _ => lifted os started H enc)

/-- ████ THE STATEMENT ████ -/
theorem proved : Rows.LawS2197CNodesSaid := over
end Go.Proofs.Ybulkasma.lawS2197CNodes
