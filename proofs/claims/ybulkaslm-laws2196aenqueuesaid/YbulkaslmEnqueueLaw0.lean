/-
  For LawS2196AEnqueue: the law's own loop; the ways on which enqueue does not queue.
-/
import Derived.Test.YbulkaslmEnqueueWalks
import Derived.Lib.Builder
namespace Go.Proofs.Ybulkaslm.lawS2196AEnqueue
open Go.ChangeShapes Go.WideShapes Go.ChangeAt Go.RowKit

/-- Between two pushes: at most new blocks; j waiters queued, all of them new; the unlocker's block as it was laid. -/
def Good (w : World) (j : Nat) (wr : World) : Prop :=
  Grown w wr ∧ wr.heap[w.heap.size + 1]? = some (.cells #[.pointer (some ⟨w.heap.size, 1, none⟩)] 46 (0, 0)) ∧ ∃ L : List Nat, L.length = j ∧ Queue wr w.heap.size L 0 0 j ∧ ∀ c ∈ L, w.heap.size + 1 < c

theorem good_start (w : World) : Good w 0 ((w.alloc (mutObj 0 0 (.pointer none) (.pointer none) 0)).alloc (.cells #[.pointer (some ⟨w.heap.size, 1, none⟩)] 46)) := by
  refine ⟨((Grown.refl w).alloc _ _).alloc _ _, ?_, [], rfl, ⟨.pointer none, .pointer none, ?_, rfl, by simp, by simp, by simp, by simp⟩, by simp⟩
  · have := (MapKept.heap_alloc (w.alloc (mutObj 0 0 (.pointer none) (.pointer none) 0)) (.cells #[.pointer (some ⟨w.heap.size, 1, none⟩)] 46)).1
    rwa [show (w.alloc (mutObj 0 0 (.pointer none) (.pointer none) 0)).heap.size = w.heap.size + 1 from by simp] at this
  · exact heap_alloc_old (MapKept.heap_alloc w _).1 _

theorem push_good {w wr : World} {j : Nat} (hj : j ≤ 100) (g : Good w j wr) (l : TypeId) (v : Value) :
    Calls Yba.prog 6 #[.pointer (some ⟨w.heap.size, 3, none⟩), .iface l v, .chan none] wr.drew fun e w' => (∃ x y, e = .returned (.tuple #[x, y])) ∧ Good w (j + 1) w' := by
  obtain ⟨hg, hu, L, hL, Q, hc⟩ := g
  have hlt := heap_lt hu
  refine (push_queue j hj Q.drew l v none).mono ?_
  rintro e w' ⟨rfl, Q', _, o⟩
  refine ⟨⟨_, _, rfl⟩, o.2.2 w hg.drew ?_, ?_, _, ?_, Q', ?_⟩
  · intro c hc'
    rcases List.mem_cons.1 hc' with rfl | h
    · exact Nat.le_refl _
    · have := hc c h; omega
  · rw [o.2.1 _ hlt, ← hu]
    · rfl
    · intro h
      rcases List.mem_cons.1 h with h | h
      · omega
      · have := hc _ h; omega
  · simp [hL]
  · intro c hc'
    rcases List.mem_append.1 hc' with h | h
    · exact hc c h
    · simp at h; subst h; exact hlt

theorem neq33_self (a : Addr) (w : World) : (binOp .neq 33 (.pointer (some a)) (.pointer (some a))).run Yba.prog w = .ok (.bool false) w := by
  have h : (Yba.prog.info? 66).isSome = true := by kernel_rfl
  obtain ⟨j, hj⟩ := Option.isSome_iff_exists.1 h
  exact Go.Lib.run_neq_ptr_same w a Yba.underlying33 hj
theorem queue_count {w : World} {b : Nat} {L : List Nat} {st mu : Int} {n : Nat} (hn : L.length ≤ 90) (Q : Queue w b L st mu n) :
    Calls Yba.prog 12 #[.pointer (some ⟨b, 3, none⟩)] w fun e w' => e = .returned (.int .i64 L.length) ∧ w' = w := by
  obtain ⟨h, t, m, hc, _⟩ := Q
  exact count_any m L hn hc
theorem onto_grown {w wr w' : World} {S : List Nat} (o : Onto S wr w') (hg : Grown w wr) (hS : ∀ c ∈ S, w.heap.size ≤ c) : Grown w w' := o.2.2 w hg hS

theorem fin_not {w2 : World} {b : Nat} {L : List Nat} {st : Int} {k : Nat} (Q : Queue w2 b L st 0 k) : ∃ h t, MutAt b st 0 h t k w2 ∧ MutAt b st 1 h t k (w2.setCell ⟨b, 1, none⟩ (.int .i32 1)) ∧
    w2.cell? ⟨b, 7, none⟩ = some (.int .u64 k) ∧ Queue ((w2.setCell ⟨b, 1, none⟩ (.int .i32 1)).setCell ⟨b, 1, none⟩ (.int .i32 0)) b L st 0 k ∧
    Onto [b] w2 ((w2.setCell ⟨b, 1, none⟩ (.int .i32 1)).setCell ⟨b, 1, none⟩ (.int .i32 0)) := by
  obtain ⟨h, t, m⟩ := Q.mutAt
  have o : Onto [b] w2 (w2.setCell ⟨b, 1, none⟩ (.int .i32 1)) := (Onto.refl _ _).setCell _ (.inl (by simp))
  have o2 := o.setCell (a := ⟨b, 1, none⟩) (.int .i32 0) (.inl (by simp))
  exact ⟨h, t, m, m.set1 1, m.cells.2.2.2.2.2, Q.turn st 0 o2 fun _ _ m => (m.set1 1).set1 0, o2⟩

set_option maxRecDepth 100000 in
set_option maxHeartbeats 1000000 in
theorem walk_not (a0 : Int) (a1 a2 a3 a4 : Bool) (a5 : Int) (w5 : (Lit.int .u8 a5).wf = true) (w : World) (h1 : (bits .and .i32 a0 1 == 0) = true) (h2 : a2 = true ∨ (bits .and .i32 a0 2 == 0) = true) :
    Calls Yba.prog 3 #[.int .i32 a0, .bool a1, .bool a2, .bool a3, .bool a4, .int .u8 a5] w fun e w' => e = .returned (.bool true) ∧ Grown w w' := by
  obtain ⟨hr0, hr1⟩ := bounds_u8 w5
  clear w5
  have hs := good_start w
  go_enter Yba.func3, Yba.ntmps3
  go_wp2_with fail
  go_loopw [16] (fun i wr => ∃ k : Nat, k ≤ a5 % 5 ∧ i = .int .i64 k ∧ Good w k wr) (fun i _ => 8 - (intOf i).toNat)
  case atStart => exact ⟨0, by omega, rfl, hs⟩
  case round =>
    obtain ⟨k, hk, rfl, hg⟩ := hrel
    clear hs
    by_cases hlt : (k : Int) < a5 % 5
    · have hcell : wr.cell? ⟨w.heap.size + 1, 0, none⟩ = some (.pointer (some ⟨w.heap.size, 1, none⟩)) := by
        have := hg.2.1; simp [World.cell?, this]
      go_wp2_with fail
      go_region_with (go_at_call 6; refine (push_good (w := w) (by omega) hg _ _).mono ?_; rintro e w' ⟨⟨x, y, rfl⟩, hg'⟩)
      go_wp2_with fail
      go_roundw
      case rel => exact ⟨k + 1, by omega, by go_num, hg'⟩
      case measure => simp [intOf]; omega
    · have hK : a5 % 5 = k := by omega
      have hk4 : k ≤ 4 := by omega
      obtain ⟨hg1, hu, L, hL, Q, hc⟩ := hg
      obtain ⟨h, t, m⟩ := Q.mutAt
      have o1 : Onto [w.heap.size] wr (wr.setCell ⟨w.heap.size, 0, none⟩ (.int .i32 a0)) := (Onto.refl _ _).setCell _ (.inl (by simp))
      have Q1 := Q.turn a0 0 o1 fun _ _ m => m.set0 a0
      have o1' : Onto [w.heap.size] wr ((wr.setCell ⟨w.heap.size, 0, none⟩ (.int .i32 a0)).alloc (.chan 0 #[] false 0 0 false)) := o1.allocChan _ _ _ _ _ _
      have Q1' := Q.turn a0 0 o1' fun _ _ m => (m.set0 a0).alloc _
      have hmk := make_chan
      have h1' : (bits .and .i32 a0 1 != 0) = false := by simp only [bne, h1, Bool.not_true]
      have hb : (a0 != a0) = false := by simp
      have hd : ((k : Int) != (k : Int)) = false := by simp
      have hbk : ((k : Int) == (k : Int)) = true := by simp
      clear hk hlt
      rcases h2 with rfl | h2
      · cases a4
        · skip
          go_wp2_with fail
          refine (store_st m _).mono ?_; rintro e w' ⟨rfl, rfl⟩
          go_wp2_with fail
          refine (enqueue_not k Q1 _ _ _ _ h1 (.inl rfl)).mono ?_; rintro e w2 ⟨rfl, Q2, o2⟩
          obtain ⟨h', t', m2, m3, c7, Q3, o3⟩ := fin_not Q2
          go_wp2_with (first
            | (go_at_call 9; refine (load_st m2).mono ?_; rintro e w' ⟨rfl, rfl⟩)
            | (go_at_call 10; refine (try_free m2).mono ?_; rintro e w' ⟨rfl, rfl⟩)
            | (go_at_call 11; refine (unlock_held m3).mono ?_; rintro e w' ⟨rfl, rfl⟩)
            | (go_at_call 12; refine (queue_count (by omega) Q3).mono ?_; rintro e w' ⟨rfl, rfl⟩))
          all_goals
            go_ret
            exact ⟨by simp, onto_grown o3 (onto_grown o2 (onto_grown o1 hg1 (by simp)) (by simp)) (by simp)⟩
        · skip
          go_wp2_with fail
          refine (store_st m _).mono ?_; rintro e w' ⟨rfl, rfl⟩
          go_wp2_with fail
          refine (enqueue_not k Q1' _ _ _ _ h1 (.inl rfl)).mono ?_; rintro e w2 ⟨rfl, Q2, o2⟩
          obtain ⟨h', t', m2, m3, c7, Q3, o3⟩ := fin_not Q2
          go_wp2_with (first
            | (go_at_call 9; refine (load_st m2).mono ?_; rintro e w' ⟨rfl, rfl⟩)
            | (go_at_call 10; refine (try_free m2).mono ?_; rintro e w' ⟨rfl, rfl⟩)
            | (go_at_call 11; refine (unlock_held m3).mono ?_; rintro e w' ⟨rfl, rfl⟩)
            | (go_at_call 12; refine (queue_count (by omega) Q3).mono ?_; rintro e w' ⟨rfl, rfl⟩))
          all_goals
            go_ret
            exact ⟨by simp, onto_grown o3 (onto_grown o2 (onto_grown o1' hg1 (by simp)) (by simp)) (by simp)⟩
      · have h2n : (bits .and .i32 a0 2 != 0) = false := by simp only [bne, h2, Bool.not_true]
        cases a4
        · skip
          go_wp2_with fail
          refine (store_st m _).mono ?_; rintro e w' ⟨rfl, rfl⟩
          go_wp2_with fail
          refine (enqueue_not k Q1 _ _ _ _ h1 (.inr h2)).mono ?_; rintro e w2 ⟨rfl, Q2, o2⟩
          obtain ⟨h', t', m2, m3, c7, Q3, o3⟩ := fin_not Q2
          go_wp2_with (first
            | (go_at_call 9; refine (load_st m2).mono ?_; rintro e w' ⟨rfl, rfl⟩)
            | (go_at_call 10; refine (try_free m2).mono ?_; rintro e w' ⟨rfl, rfl⟩)
            | (go_at_call 11; refine (unlock_held m3).mono ?_; rintro e w' ⟨rfl, rfl⟩)
            | (go_at_call 12; refine (queue_count (by omega) Q3).mono ?_; rintro e w' ⟨rfl, rfl⟩))
          all_goals
            go_ret
            exact ⟨by simp, onto_grown o3 (onto_grown o2 (onto_grown o1 hg1 (by simp)) (by simp)) (by simp)⟩
        · skip
          go_wp2_with fail
          refine (store_st m _).mono ?_; rintro e w' ⟨rfl, rfl⟩
          go_wp2_with fail
          refine (enqueue_not k Q1' _ _ _ _ h1 (.inr h2)).mono ?_; rintro e w2 ⟨rfl, Q2, o2⟩
          obtain ⟨h', t', m2, m3, c7, Q3, o3⟩ := fin_not Q2
          go_wp2_with (first
            | (go_at_call 9; refine (load_st m2).mono ?_; rintro e w' ⟨rfl, rfl⟩)
            | (go_at_call 10; refine (try_free m2).mono ?_; rintro e w' ⟨rfl, rfl⟩)
            | (go_at_call 11; refine (unlock_held m3).mono ?_; rintro e w' ⟨rfl, rfl⟩)
            | (go_at_call 12; refine (queue_count (by omega) Q3).mono ?_; rintro e w' ⟨rfl, rfl⟩))
          all_goals
            go_ret
            exact ⟨by simp, onto_grown o3 (onto_grown o2 (onto_grown o1' hg1 (by simp)) (by simp)) (by simp)⟩

theorem enqueue_at {w : World} {b : Nat} {L : List Nat} {st : Int} (n nb : Nat) (hn : n ≤ 100) (hnb : w.heap.size + 1 = nb) (Q : Queue w b L st 0 n) (again woken starving : Bool) (d : Option Nat)
    (hq : (bits .and .i32 st 1 == 0) = false ∨ ((bits .and .i32 st 1 == 0) = true ∧ woken = false ∧ (bits .and .i32 st 2 == 0) = false)) :
    Calls Yba.prog 8 #[.pointer (some ⟨b, 0, none⟩), .bool again, .bool woken, .bool starving, .chan d] w fun e w' => e = .returned (.tuple #[.pointer (some ⟨nb, 0, none⟩), .int .u64 (n + 1 : Nat), .bool true]) ∧
      Queue w' b (bif again then nb :: L else L ++ [nb]) (nextOf woken starving st) 1 (n + 1) ∧ (∃ pv nx l, WaitAt nb pv nx (n + 1 : Nat) l (rdy d (nb + 1)) w') ∧ Onto (b :: L) w w' := by
  subst hnb; exact enqueue_any n hn Q again woken starving d hq

theorem fin_yes {w2 : World} {b nb : Nat} {L : List Nat} {st : Int} {k : Nat} {again : Bool} {pv nx l r : Value} {sq : Int} (Q : Queue w2 b (bif again then nb :: L else L ++ [nb]) st 1 k) (hw : WaitAt nb pv nx sq l r w2) :
    ∃ h t, MutAt b st 1 h t k w2 ∧ MutAt b st 0 h t k (w2.setCell ⟨b, 1, none⟩ (.int .i32 0)) ∧ WaitAt nb pv nx sq l r (w2.setCell ⟨b, 1, none⟩ (.int .i32 0)) ∧ (again = true → h = .pointer (some ⟨nb, 0, none⟩)) ∧ (again = false → t = .pointer (some ⟨nb, 0, none⟩)) ∧
      Queue (w2.setCell ⟨b, 1, none⟩ (.int .i32 0)) b (bif again then nb :: L else L ++ [nb]) st 0 k ∧ Onto [b] w2 (w2.setCell ⟨b, 1, none⟩ (.int .i32 0)) := by
  have o : Onto [b] w2 (w2.setCell ⟨b, 1, none⟩ (.int .i32 0)) := (Onto.refl _ _).setCell _ (.inl (by simp))
  have Q' := Q.turn st 0 o fun _ _ m => m.set1 0
  obtain ⟨h, t, m, hc, ht0, ht, hnd, hb⟩ := Q
  have hmem : nb ∈ (bif again then nb :: L else L ++ [nb]) := by cases again <;> simp
  have hne : b ≠ nb := by rintro rfl; exact hb hmem
  refine ⟨h, t, m, m.set1 0, hw.other _ hne, ?_, ?_, Q', o⟩
  · rintro rfl
    exact hc.1
  · rintro rfl
    exact ht nb (by simp)
end Go.Proofs.Ybulkaslm.lawS2196AEnqueue
