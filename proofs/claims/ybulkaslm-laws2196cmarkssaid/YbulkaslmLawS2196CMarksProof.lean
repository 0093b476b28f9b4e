/-
  'Rows.LawS2196CMarksSaid', proved: the row's step by the kit's tool, the walk by hand over YbulkaslmCondWalks.
-/
import Derived.Test.YbulkaslmRows
import Derived.Test.YbulkaslmCondWalks
import Derived.WalkKit
import Derived.ProofKit
import Derived.OpenShut
import Derived.ShutString
namespace Go.Proofs.Ybulkaslm.lawS2196CMarks
open Go.ChangeShapes Go.WideShapes Go.ChangeAt Go.RowKit
open Go.ChangeMaps (open_string shut_string)
set_option linter.unusedVariables false      -- a walk need not use every 'w<i>' (that an integer argument fits its kind)

theorem own : ownKnob Yba.prog.godebug = none := by kernel_rfl


/-- What the law knows of the world between two calls: at most new blocks; its Cond is fresh or marked as its own, its state word st. -/
def Good (w : World) (st : Int) (wr : World) : Prop := Grown w wr ∧ Own w.heap.size st wr

set_option maxHeartbeats 400000 in
theorem walk (a0 : Int) (a1 : Int) (a2 : Bool) (w0 : (Lit.int .u8 a0).wf = true) (w1 : (Lit.int .u32 a1).wf = true) (w : World) :
    Calls Yba.prog 4 #[.int .u8 a0, .int .u32 a1, .bool a2] w fun e w' => e = .returned (.bool true) ∧ Grown w w' := by
  obtain ⟨hr0, hr1⟩ := bounds_u8 w0
  clear w0
  have hn := CondAt.new w
  have hgn : Grown w (w.alloc (condObj none 0)) := (Grown.refl w).alloc _ _
  have h2 := hn.set2 (t := a1)
  have hg2 : Grown w ((w.alloc (condObj none 0)).setCell ⟨w.heap.size, 2, none⟩ (.int .u32 a1)) := hgn.setCell (Nat.le_refl _) _
  have h3 := h2.set1 (q := some ⟨w.heap.size, 0, none⟩)
  have hg3 : Grown w (((w.alloc (condObj none 0)).setCell ⟨w.heap.size, 2, none⟩ (.int .u32 a1)).setCell ⟨w.heap.size, 1, none⟩ (.pointer (some ⟨w.heap.size, 0, none⟩))) := hg2.setCell (Nat.le_refl _) _
  have hne := neq_self ⟨w.heap.size, 0, none⟩
  cases a2
  all_goals
    go_enter Yba.func4, Yba.ntmps4
    go_wp2_with (first
      | (go_at_call 13; refine (new_cond _).mono ?_; rintro e w' ⟨rfl, rfl⟩)
      | (go_at_call 14; refine (store_state _ hn).mono ?_; rintro e w' ⟨rfl, rfl⟩)
      | (go_at_call 15; refine (store_self h2).mono ?_; rintro e w' ⟨rfl, rfl⟩))
    go_loopw [9] (fun i wr => ∃ k : Nat, k ≤ 8 ∧ i = .int .i64 k ∧ Good w a1 wr) (fun i _ => 8 - (intOf i).toNat)
    case atStart => first | exact ⟨0, by omega, rfl, hg2, .inl h2⟩ | exact ⟨0, by omega, rfl, hg3, .inr h3⟩
    case round =>
      obtain ⟨k, hk, rfl, hg, ho⟩ := hrel
      clear hn hgn h2 hg2 h3 hg3
      by_cases hlt : (k : Int) < a0 % 8 + 1
      · go_wp2_with fail
        refine (use_any ho).mono ?_
        rintro e w1 ⟨rfl, hc1, m1⟩
        go_wp2_with fail
        refine (load_self hc1).mono ?_
        rintro e w2 ⟨rfl, rfl⟩
        go_wp2_with fail
        go_roundw
        case rel => exact ⟨k + 1, by omega, by go_num, m1.grown hg (Nat.le_refl _), .inr hc1⟩
        case measure => simp [intOf]; omega
      · obtain ⟨p, hp⟩ : ∃ p, CondAt w.heap.size p a1 wr := ho.elim (fun h => ⟨_, h⟩) (fun h => ⟨_, h⟩)
        have c0 := hp.c0
        have hb : (a1 == a1) = true := by simp
        go_wp2_with fail
        refine (load_state hp).mono ?_
        rintro e w2 ⟨rfl, rfl⟩
        go_wp2_with fail
        go_ret
        exact ⟨rfl, hg⟩

/-! ### THE ROW's STEP: WRITTEN OUT: LEAVE IT -/
set_option maxRecDepth 100000 in
theorem lifted (os : Os) (started : os.Started) (H : Type) (enc : TypeId × Value → H) :
    ReturnsInHanded {} Yba.checked os 4 .any (Rows.lawS2196CMarksSpec.pre6 enc Yba.prog Yba.f4 Rows.lawS2196CMarksRow.domain false) (Rows.lawS2196CMarksSpec.post enc Yba.prog Yba.f4 false true false false) := by
  refine returnsInHanded_of_change (C := Yba.checked) own started (by kernel_rfl) Yba.func4
    (ChangeSpec.witness6 (enc := enc) (C := Yba.checked) false ⟨#[], #[.int .u8 0, .int .u32 0, .bool false], []⟩ 8 (by kernel_rfl) (by kernel_rfl) (by kernel_rfl) (by kernel_rfl)) ?_
  intro W base args ds gs before hval0 hW hcnd _
  have hval : ∀ (j : Nat) t v, Yba.f4.params[j]? = some t → args[j]? = some v → Value.okWide Yba.prog W .any base t v := hval0
  have hW' := hW
  obtain ⟨p, q, hA0, hV, rfl, hfz, hnd⟩ := hW
  have hA : DataW.TrodAll enc Yba.prog W 0 (fun _ => true) true Yba.f4.params.toList args.toList ds p := hA0
  rw [Yba.params4] at hA hval
  obtain ⟨v0, vs0, d0, ds0, p0, q0, hargs, rfl, rfl, h0, r0⟩ := trodAll_cons hA
  obtain ⟨v1, vs1, d1, ds1, p1, q1, rfl, rfl, rfl, h1, r1⟩ := trodAll_cons r0
  obtain ⟨v2, vs2, d2, ds2, p2, q2, rfl, rfl, rfl, h2, r2⟩ := trodAll_cons r1
  obtain ⟨rfl, rfl, rfl⟩ := trodAll_nil r2
  obtain rfl : args = #[v0, v1, v2] := by cases args; simp_all
  obtain ⟨rfl, rfl⟩ := trodVars_none hV
  obtain ⟨a0, rfl, rfl, rfl, w0⟩ := open_int Yba.underlying5 (hval 0 5 v0 rfl rfl) h0
  obtain ⟨a1, rfl, rfl, rfl, w1⟩ := open_int Yba.underlying28 (hval 1 28 v1 rfl rfl) h1
  obtain ⟨a2, rfl, rfl, rfl⟩ := open_bool Yba.underlying4 (hval 2 4 v2 rfl rfl) h2
  clear hA0 hval0
  simp only [List.append_nil] at hW'
  refine (walk a0 a1 a2 w0 w1 W).mono fun e W' ⟨he, hg⟩ => ?_
  subst he
  exact ⟨_, rfl, post_of_same (pa := []) (pv := []) hW' (fun _ _ _ => (trodAll_cons_mk (shut_bool Yba.underlying4 _) trodAll_mk0)) (fun sp _ => (trodAll_cons_mk (shut_int Yba.underlying5 w0) (trodAll_cons_mk (shut_int Yba.underlying28 w1) (trodAll_cons_mk (shut_bool Yba.underlying4 _) trodAll_mk0)))) (fun _ _ => rfl) rfl
    (hg.frame _) hg.2.1 (ok_one (by kernel_rfl) rfl (okWide_bool_mk Yba.underlying4 _))⟩

theorem over : Rows.lawS2196CMarksRow.holds Yba.pinned (OpenSpec.ofChange Rows.lawS2196CMarksSpec) :=
  OpenClaim.holds_of_wide 4 Yba.f4 rfl rfl rfl rfl rfl rfl rfl ⟨rfl, rfl, rfl, rfl, rfl⟩ rfl rfl rfl rfl rfl (by kernel_rfl) Yba.func4 (by kernel_rfl)
    (of_decide_eq_true (by kernel_rfl)) (by unfold Func.isWrapper; first | (rw [if_pos (by decide +kernel)]; kernel_rfl) | (rw [if_neg (by decide +kernel)]; exact ⟨rfl, rfl⟩))
    (fun os started H enc _ => lifted os started H enc)

/-- ████ THE STATEMENT ████ -/
theorem proved : Rows.LawS2196CMarksSaid :=
  over
end Go.Proofs.Ybulkaslm.lawS2196CMarks
