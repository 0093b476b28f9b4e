/-
  For LawS2196AEnqueue: ways on which enqueue queues (by mutexWoken; done nil).
-/
import Derived.Test.YbulkaslmEnqueueLaw0
namespace Go.Proofs.Ybulkaslm.lawS2196AEnqueue
open Go.ChangeShapes Go.WideShapes Go.ChangeAt Go.RowKit

set_option maxRecDepth 100000 in
set_option maxHeartbeats 4000000 in
theorem walk_yes3 (a0 : Int) (a1 a3 : Bool) (a5 : Int) (w5 : (Lit.int .u8 a5).wf = true) (w : World) (h1 : (bits .and .i32 a0 1 == 0) = true) (h2 : (bits .and .i32 a0 2 == 0) = false) :
    Calls Yba.prog 3 #[.int .i32 a0, .bool a1, .bool false, .bool a3, .bool false, .int .u8 a5] w fun e w' => e = .returned (.bool true) ∧ Grown w w' := by
  obtain ⟨hr0, hr1⟩ := bounds_u8 w5
  clear w5
  have hs := good_start w
  go_enter Yba.func3, Yba.ntmps3
  go_wp2_with fail
  go_loopw [16] (fun i wr => ∃ k : Nat, k ≤ a5 % 5 ∧ i = .int .i64 k ∧ Good w k wr) (fun i _ => 8 - (intOf i).toNat)
  case atStart => exact ⟨0, by omega, rfl, hs⟩
  case round =>
    obtain ⟨k, hk, rfl, hg⟩ := hrel
    clear hs
    by_cases hlt : (k : Int) < a5 % 5
    · have hcell : wr.cell? ⟨w.heap.size + 1, 0, none⟩ = some (.pointer (some ⟨w.heap.size, 1, none⟩)) := by
        have := hg.2.1; simp [World.cell?, this]
      go_wp2_with fail
      go_region_with (go_at_call 6; refine (push_good (w := w) (by omega) hg _ _).mono ?_; rintro e w' ⟨⟨x, y, rfl⟩, hg'⟩)
      go_wp2_with fail
      go_roundw
      case rel => exact ⟨k + 1, by omega, by go_num, hg'⟩
      case measure => simp [intOf]; omega
    · have hK : a5 % 5 = k := by omega
      have hk4 : k ≤ 4 := by omega
      obtain ⟨hg1, hu, L, hL, Q, hc⟩ := hg
      obtain ⟨h, t, m⟩ := Q.mutAt
      have o1 : Onto [w.heap.size] wr (wr.setCell ⟨w.heap.size, 0, none⟩ (.int .i32 a0)) := (Onto.refl _ _).setCell _ (.inl (by simp))
      have Q1 := Q.turn a0 0 o1 fun _ _ m => m.set0 a0
      have hq1 := neq50_nil
      have hp := neq33_self
      have h1' : (bits .and .i32 a0 1 != 0) = false := by simp only [bne, h1, Bool.not_true]
      have h2n : (bits .and .i32 a0 2 != 0) = true := by simp only [bne, h2, Bool.not_false]
      have hS : ∀ c ∈ w.heap.size :: L, w.heap.size ≤ c := by
        intro c hc'
        rcases List.mem_cons.1 hc' with rfl | h
        · exact Nat.le_refl _
        · have := hc c h; omega
      clear hk hlt hc hu
      cases a1 <;> cases a3
      all_goals
        go_wp2_with fail
        refine (store_st m _).mono ?_; rintro e w' ⟨rfl, rfl⟩
        go_wp2_with fail
        refine (enqueue_at k (wr.heap.size + 1) (by omega) (by simp) Q1 _ _ _ _ (.inr ⟨h1, rfl, h2⟩)).mono ?_; rintro e w2 ⟨rfl, Q2, ⟨pv, nx, l, hw⟩, o2⟩
        obtain ⟨h', t', m2, m3, hw3, hh, ht, Q3, o3⟩ := fin_yes Q2 hw
        obtain ⟨d0, d1, d3, d4, d5, d7⟩ := m3.cells
        obtain ⟨e0, e1, e2, e10⟩ := hw3.cells
        first | obtain rfl := ht rfl | obtain rfl := hh rfl
        clear hh ht
        simp only [nextOf, cond_true, cond_false, rdy] at Q2 Q3 m2 m3 e10
        go_wp2_with (first
          | (go_at_call 9; refine (load_st m3).mono ?_; rintro e w' ⟨rfl, rfl⟩)
          | (go_at_call 10; refine (try_held m2).mono ?_; rintro e w' ⟨rfl, rfl⟩)
          | (go_at_call 11; refine (unlock_held m2).mono ?_; rintro e w' ⟨rfl, rfl⟩)
          | (go_at_call 12; refine (queue_count (by simp; omega) Q3).mono ?_; rintro e w' ⟨rfl, rfl⟩))
        go_ret
        exact ⟨by simp, onto_grown o3 (onto_grown o2 (onto_grown o1 hg1 (by simp)) hS) (by simp)⟩
end Go.Proofs.Ybulkaslm.lawS2196AEnqueue
