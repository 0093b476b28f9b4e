/-
  'Rows.LawS2196CApartSaid' ('example.com/latchwork/latchwork.LawS2196CApart'), proved: the row's step by the kit's tool, the walk by hand over YbulkaslmCondWalks.
-/
import Derived.Test.YbulkaslmRows
import Derived.Test.YbulkaslmCondWalks
import Derived.WalkKit
import Derived.ProofKit
import Derived.OpenShut
import Derived.ShutString
namespace Go.Proofs.Ybulkaslm.lawS2196CApart
open Go.ChangeShapes Go.WideShapes Go.ChangeAt Go.RowKit
open Go.ChangeMaps (open_string shut_string)
set_option linter.unusedVariables false      -- a walk need not use every 'w<i>' (that an integer argument fits its kind)

theorem own : ownKnob Yba.prog.godebug = none := by kernel_rfl


/-- What the law knows of the world between two calls: at most new blocks; its two Conds are fresh or marked as their own, their state words 0. -/
def Good (w wr : World) : Prop := Grown w wr ∧ Own w.heap.size 0 wr ∧ Own (w.heap.size + 1) 0 wr

theorem good_marks {w wr w' : World} {x : Nat} (hx : x = w.heap.size ∨ x = w.heap.size + 1) (g : Good w wr) (hc : CondAt x (some ⟨x, 0, none⟩) 0 w') (m : Marks x wr w') : Good w w' := by
  obtain ⟨hg, hA, hB⟩ := g
  rcases hx with rfl | rfl
  · exact ⟨m.grown hg (by omega), .inr hc, m.own hB (by omega)⟩
  · exact ⟨m.grown hg (by omega), m.own hA (by omega), .inr hc⟩
theorem good_own {w wr : World} {x : Nat} (hx : x = w.heap.size ∨ x = w.heap.size + 1) (g : Good w wr) : Own x 0 wr := by
  obtain ⟨hg, hA, hB⟩ := g
  rcases hx with rfl | rfl
  · exact hA
  · exact hB
theorem use_good {w wr : World} (x : Nat) (hx : x = w.heap.size ∨ x = w.heap.size + 1) (g : Good w wr) :
    Calls Yba.prog 16 #[.pointer (some ⟨x, 0, none⟩)] wr fun e w' => e = .returned (.tuple #[]) ∧ Good w w' := by
  refine (use_any (good_own hx g)).mono ?_
  rintro e w' ⟨rfl, hc, m⟩
  exact ⟨rfl, good_marks hx g hc m⟩
theorem copy_good {w wr : World} (x : Nat) (hx : x = w.heap.size ∨ x = w.heap.size + 1) (g : Good w wr) :
    Calls Yba.prog 19 #[.pointer (some ⟨x, 0, none⟩)] wr fun e w' => e = .returned (.tuple #[]) ∧ Good w w' := by
  refine (copy_any (good_own hx g)).mono ?_
  rintro e w' ⟨rfl, hc, m⟩
  exact ⟨rfl, good_marks hx g hc m⟩
theorem good_start (w : World) : Good w ((w.alloc (condObj none 0)).alloc (condObj none 0)) := by
  refine ⟨((Grown.refl w).alloc _ _).alloc _ _, .inl ((CondAt.new w).alloc _), .inl ?_⟩
  have := CondAt.new (w.alloc (condObj none 0))
  rwa [show (w.alloc (condObj none 0)).heap.size = w.heap.size + 1 from by simp] at this

set_option maxHeartbeats 400000 in
theorem walk (a0 : Int) (a1 : Bool) (w0 : (Lit.int .u8 a0).wf = true) (w : World) :
    Calls Yba.prog 5 #[.int .u8 a0, .bool a1] w fun e w' => e = .returned (.bool true) ∧ Grown w w' := by
  obtain ⟨hr0, hr1⟩ := bounds_u8 w0
  clear w0
  have hs := good_start w
  have heq := eql_self
  cases a1
  all_goals
    go_enter Yba.func5, Yba.ntmps5
    go_wp2_with (go_at_call 13; refine (new_cond _).mono ?_; rintro e w' ⟨rfl, rfl⟩)
    go_loopw [8] (fun i wr => ∃ k : Nat, k ≤ 8 ∧ i = .int .i64 k ∧ Good w wr) (fun i _ => 8 - (intOf i).toNat)
    case atStart => exact ⟨0, by omega, rfl, hs⟩
    case round =>
      obtain ⟨k, hk, rfl, hg⟩ := hrel
      clear hs
      by_cases hlt : (k : Int) < a0 % 6 + 2
      · go_wp2_with (first
          | (go_at_call 19; refine (copy_good (w := w) _ (by omega) (by assumption)).mono ?_; rintro e w' ⟨rfl, hg'⟩)
          | (go_at_call 16; refine (use_good (w := w) _ (by omega) (by assumption)).mono ?_; rintro e w' ⟨rfl, hg'⟩))
        all_goals
          go_roundw
          case rel => exact ⟨k + 1, by omega, by go_num, by assumption⟩
          case measure => simp [intOf]; omega
      · go_wp2_with fail
        obtain ⟨h1, h2, h3⟩ := hg
        refine (use_any h2).mono ?_
        rintro e w1 ⟨rfl, hc1, m1⟩
        go_wp2_with fail
        refine (use_any (m1.own h3 (by omega))).mono ?_
        rintro e w2 ⟨rfl, hc2, m2⟩
        have hc1' := m2.other hc1 (by omega)
        have hg2 := m2.grown (m1.grown h1 (by omega)) (by omega)
        clear m1 m2 h1 h2 h3
        go_wp2_with fail
        refine (load_self hc1').mono ?_
        rintro e w3 ⟨rfl, rfl⟩
        go_wp2_with fail
        refine (load_self hc2).mono ?_
        rintro e w3 ⟨rfl, rfl⟩
        go_wp2_with fail
        refine (load_state hc1').mono ?_
        rintro e w3 ⟨rfl, rfl⟩
        go_wp2_with fail
        refine (load_state hc2).mono ?_
        rintro e w3 ⟨rfl, rfl⟩
        go_wp2_with fail
        go_ret
        exact ⟨rfl, hg2⟩

/-! ### THE ROW's STEP: WRITTEN OUT: LEAVE IT -/
set_option maxRecDepth 100000 in
theorem lifted (os : Os) (started : os.Started) (H : Type) (enc : TypeId × Value → H) :
    ReturnsInHanded {} Yba.checked os 5 .any (Rows.lawS2196CApartSpec.pre6 enc Yba.prog Yba.f5 Rows.lawS2196CApartRow.domain false) (Rows.lawS2196CApartSpec.post enc Yba.prog Yba.f5 false true false false) := by
  refine returnsInHanded_of_change (C := Yba.checked) own started (by kernel_rfl) Yba.func5
    (ChangeSpec.witness6 (enc := enc) (C := Yba.checked) false ⟨#[], #[.int .u8 0, .bool false], []⟩ 8 (by kernel_rfl) (by kernel_rfl) (by kernel_rfl) (by kernel_rfl)) ?_
  intro W base args ds gs before hval0 hW hcnd _
  have hval : ∀ (j : Nat) t v, Yba.f5.params[j]? = some t → args[j]? = some v → Value.okWide Yba.prog W .any base t v := hval0
  have hW' := hW
  obtain ⟨p, q, hA0, hV, rfl, hfz, hnd⟩ := hW
  have hA : DataW.TrodAll enc Yba.prog W 0 (fun _ => true) true Yba.f5.params.toList args.toList ds p := hA0
  rw [Yba.params5] at hA hval
  obtain ⟨v0, vs0, d0, ds0, p0, q0, hargs, rfl, rfl, h0, r0⟩ := trodAll_cons hA
  obtain ⟨v1, vs1, d1, ds1, p1, q1, rfl, rfl, rfl, h1, r1⟩ := trodAll_cons r0
  obtain ⟨rfl, rfl, rfl⟩ := trodAll_nil r1
  obtain rfl : args = #[v0, v1] := by cases args; simp_all
  obtain ⟨rfl, rfl⟩ := trodVars_none hV
  obtain ⟨a0, rfl, rfl, rfl, w0⟩ := open_int Yba.underlying5 (hval 0 5 v0 rfl rfl) h0
  obtain ⟨a1, rfl, rfl, rfl⟩ := open_bool Yba.underlying4 (hval 1 4 v1 rfl rfl) h1
  clear hA0 hval0
  simp only [List.append_nil] at hW'
  refine (walk a0 a1 w0 W).mono fun e W' ⟨he, hg⟩ => ?_
  subst he
  exact ⟨_, rfl, post_of_same (pa := []) (pv := []) hW' (fun _ _ _ => (trodAll_cons_mk (shut_bool Yba.underlying4 _) trodAll_mk0)) (fun sp _ => (trodAll_cons_mk (shut_int Yba.underlying5 w0) (trodAll_cons_mk (shut_bool Yba.underlying4 _) trodAll_mk0))) (fun _ _ => rfl) rfl
    (hg.frame _) hg.2.1 (ok_one (by kernel_rfl) rfl (okWide_bool_mk Yba.underlying4 _))⟩

theorem over : Rows.lawS2196CApartRow.holds Yba.pinned (OpenSpec.ofChange Rows.lawS2196CApartSpec) :=
  OpenClaim.holds_of_wide 5 Yba.f5 rfl rfl rfl rfl rfl rfl rfl ⟨rfl, rfl, rfl, rfl, rfl⟩ rfl rfl rfl rfl rfl (by kernel_rfl) Yba.func5 (by kernel_rfl)
    (of_decide_eq_true (by kernel_rfl)) (by unfold Func.isWrapper; first | (rw [if_pos (by decide +kernel)]; kernel_rfl) | (rw [if_neg (by decide +kernel)]; exact ⟨rfl, rfl⟩))
    (fun os started H enc _ => lifted os started H enc)

/-- ████ THE STATEMENT ████ -/
theorem proved : Rows.LawS2196CApartSaid :=
  over
end Go.Proofs.Ybulkaslm.lawS2196CApart
