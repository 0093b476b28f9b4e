/-
  For LawS2196AEnqueue: (*Mutex).enqueue.
-/
import Derived.Test.YbulkaslmQueueWalks
namespace Go.Proofs.Ybulkaslm
open Go.ChangeShapes Go.WideShapes Go.ChangeAt Go.RowKit

theorem Queue.mutAt {w : World} {b : Nat} {L : List Nat} {st mu : Int} {n : Nat} (Q : Queue w b L st mu n) : ∃ h t, MutAt b st mu h t n w := by
  obtain ⟨h, t, m, _⟩ := Q
  exact ⟨h, t, m⟩
/-- A Mutex whose own word and lock alone have turned, its waiters as they were, holds the same queue. -/
theorem Queue.turn {w w' : World} {b : Nat} {L : List Nat} {st mu : Int} {n : Nat} (Q : Queue w b L st mu n) (st' mu' : Int) (o : Onto [b] w w')
    (hm : ∀ h t, MutAt b st mu h t n w → MutAt b st' mu' h t n w') : Queue w' b L st' mu' n := by
  obtain ⟨h, t, m, hc, ht0, ht, hnd, hb⟩ := Q
  refine ⟨h, t, hm h t m, chain_keep L h hc fun e he pv nx l0 r0 sq hw => ⟨_, _, _, _, o.wait hw ?_⟩, ht0, ht, hnd, hb⟩
  simp only [List.mem_cons, List.not_mem_nil, or_false]
  rintro rfl; exact hb he
theorem Queue.drew {w : World} {b : Nat} {L : List Nat} {st mu : Int} {n : Nat} (Q : Queue w b L st mu n) : Queue w.drew b L st mu n :=
  Q.turn st mu (Onto.refl _ _).drew fun _ _ m => m
theorem Queue.alloc {w : World} {b : Nat} {L : List Nat} {st mu : Int} {n : Nat} (Q : Queue w b L st mu n) (c : Array Value) (t : TypeId) : Queue (w.alloc (.cells c t)) b L st mu n :=
  Q.turn st mu ((Onto.refl _ _).alloc _ _) fun _ _ m => m.alloc _

set_option maxRecDepth 100000 in
set_option maxHeartbeats 1000000 in
theorem enqueue_not {w : World} {b : Nat} {L : List Nat} {st : Int} (n : Nat) (Q : Queue w b L st 0 n) (again woken starving : Bool) (d : Option Nat)
    (h1 : (bits .and .i32 st 1 == 0) = true) (h2 : woken = true ∨ (bits .and .i32 st 2 == 0) = true) :
    Calls Yba.prog 8 #[.pointer (some ⟨b, 0, none⟩), .bool again, .bool woken, .bool starving, .chan d] w fun e w' => e = .returned (.tuple #[.pointer none, .int .u64 0, .bool false]) ∧
      Queue w' b L st 0 n ∧ Onto [b] w w' := by
  obtain ⟨h, t, m⟩ := Q.mutAt
  have hend : Queue ((w.setCell ⟨b, 1, none⟩ (.int .i32 1)).setCell ⟨b, 1, none⟩ (.int .i32 0)) b L st 0 n ∧ Onto [b] w ((w.setCell ⟨b, 1, none⟩ (.int .i32 1)).setCell ⟨b, 1, none⟩ (.int .i32 0)) := by
    have o : Onto [b] w ((w.setCell ⟨b, 1, none⟩ (.int .i32 1)).setCell ⟨b, 1, none⟩ (.int .i32 0)) := ((Onto.refl _ _).setCell _ (.inl (by simp))).setCell _ (.inl (by simp))
    exact ⟨Q.turn st 0 o fun _ _ m => (m.set1 1).set1 0, o⟩
  rcases h2 with rfl | h2
  · go_enter Yba.func8, Yba.ntmps8
    go_wp2_with (first
      | (go_at_call 22; refine (lock_free m).mono ?_; rintro e w' ⟨rfl, rfl⟩)
      | (go_at_call 9; refine (load_st (m.set1 1)).mono ?_; rintro e w' ⟨rfl, rfl⟩)
      | (go_at_call 11; refine (unlock_held (m.set1 1)).mono ?_; rintro e w' ⟨rfl, rfl⟩))
    go_ret3
    exact ⟨rfl, hend⟩
  · cases woken
    all_goals
      go_enter Yba.func8, Yba.ntmps8
      go_wp2_with (first
        | (go_at_call 22; refine (lock_free m).mono ?_; rintro e w' ⟨rfl, rfl⟩)
        | (go_at_call 9; refine (load_st (m.set1 1)).mono ?_; rintro e w' ⟨rfl, rfl⟩)
        | (go_at_call 11; refine (unlock_held (m.set1 1)).mono ?_; rintro e w' ⟨rfl, rfl⟩))
      go_ret3
      exact ⟨rfl, hend⟩

/-- The word that enqueue stores. -/
def nextOf (woken starving : Bool) (st : Int) : Int :=
  let a := bits .or .i32 st 4
  let c := bif woken then bits .andNot .i32 a 2 else a
  bif starving then bits .or .i32 c 8 else c

theorem push_queue_at {w : World} {b nb : Nat} {L : List Nat} {st mu : Int} (n : Nat) (hn : n ≤ 100) (hnb : w.heap.size = nb) (Q : Queue w b L st mu n) (l : TypeId) (v : Value) (d : Option Nat) :
    Calls Yba.prog 6 #[.pointer (some ⟨b, 3, none⟩), .iface l v, .chan d] w fun e w' => e = .returned (.tuple #[.pointer (some ⟨nb, 0, none⟩), .int .u64 (n + 1 : Nat)]) ∧
      Queue w' b (L ++ [nb]) st mu (n + 1) ∧ (∃ pv nx, WaitAt nb pv nx (n + 1 : Nat) (.iface l v) (rdy d (nb + 1)) w') ∧ Onto (b :: L) w w' := by
  subst hnb; exact push_queue n hn Q l v d
theorem front_queue_at {w : World} {b nb : Nat} {L : List Nat} {st mu : Int} (n : Nat) (hn : n ≤ 100) (hnb : w.heap.size = nb) (Q : Queue w b L st mu n) (l : TypeId) (v : Value) (d : Option Nat) :
    Calls Yba.prog 24 #[.pointer (some ⟨b, 3, none⟩), .iface l v, .chan d] w fun e w' => e = .returned (.tuple #[.pointer (some ⟨nb, 0, none⟩), .int .u64 (n + 1 : Nat)]) ∧
      Queue w' b (nb :: L) st mu (n + 1) ∧ (∃ pv nx, WaitAt nb pv nx (n + 1 : Nat) (.iface l v) (rdy d (nb + 1)) w') ∧ Onto (b :: L) w w' := by
  subst hnb; exact front_queue n hn Q l v d


set_option maxRecDepth 100000 in
set_option maxHeartbeats 1000000 in
theorem enqueue_back1 {w : World} {b : Nat} {L : List Nat} {st : Int} (n : Nat) (hn : n ≤ 100) (Q : Queue w b L st 0 n) (woken starving : Bool) (d : Option Nat) (h1 : (bits .and .i32 st 1 == 0) = false) :
    Calls Yba.prog 8 #[.pointer (some ⟨b, 0, none⟩), .bool false, .bool woken, .bool starving, .chan d] w fun e w' => e = .returned (.tuple #[.pointer (some ⟨w.heap.size + 1, 0, none⟩), .int .u64 (n + 1 : Nat), .bool true]) ∧
      Queue w' b (L ++ [w.heap.size + 1]) (nextOf woken starving st) 1 (n + 1) ∧ (∃ pv nx l, WaitAt (w.heap.size + 1) pv nx (n + 1 : Nat) l (rdy d (w.heap.size + 2)) w') ∧ Onto (b :: L) w w' := by
  obtain ⟨h, t, m⟩ := Q.mutAt
  have m1 := m.set1 1
  have hQ : ∀ x, Queue (((w.setCell ⟨b, 1, none⟩ (.int .i32 1)).setCell ⟨b, 0, none⟩ (.int .i32 x)).alloc (.cells #[.pointer (some ⟨b, 1, none⟩)] 46)).drew b L x 1 n := fun x =>
    (Q.turn x 1 (((((Onto.refl _ _).setCell _ (.inl (by simp))).setCell _ (.inl (by simp))).alloc _ _).drew) fun _ _ m => ((m.set1 1).set0 x).alloc _)
  have hO : ∀ x, Onto (b :: L) w (((w.setCell ⟨b, 1, none⟩ (.int .i32 1)).setCell ⟨b, 0, none⟩ (.int .i32 x)).alloc (.cells #[.pointer (some ⟨b, 1, none⟩)] 46)).drew := fun x =>
    (((((Onto.refl _ _).setCell _ (.inl (by simp))).setCell _ (.inl (by simp))).alloc _ _).drew)
  clear Q
  cases woken <;> cases starving
  all_goals
    go_enter Yba.func8, Yba.ntmps8
    go_wp2_with (first
      | (go_at_call 22; refine (lock_free m).mono ?_; rintro e w' ⟨rfl, rfl⟩)
      | (go_at_call 9; refine (load_st m1).mono ?_; rintro e w' ⟨rfl, rfl⟩)
      | (go_at_call 23; refine (cas_st m1 _).mono ?_; rintro e w' ⟨rfl, rfl⟩))
    go_region_with (go_at_call 6; refine (push_queue_at n hn (nb := w.heap.size + 1) (by simp) (hQ _) _ _ _).mono ?_; rintro e w' ⟨rfl, hq', ⟨pv, nx, hw'⟩, o'⟩)
    go_wp2
    go_ret3
    exact ⟨rfl, hq', ⟨pv, nx, _, hw'⟩, (hO _).trans o' fun c hc => .inl hc⟩

set_option maxRecDepth 100000 in
set_option maxHeartbeats 1000000 in
theorem enqueue_back2 {w : World} {b : Nat} {L : List Nat} {st : Int} (n : Nat) (hn : n ≤ 100) (Q : Queue w b L st 0 n) (starving : Bool) (d : Option Nat) (h1 : (bits .and .i32 st 1 == 0) = true) (h2 : (bits .and .i32 st 2 == 0) = false) :
    Calls Yba.prog 8 #[.pointer (some ⟨b, 0, none⟩), .bool false, .bool false, .bool starving, .chan d] w fun e w' => e = .returned (.tuple #[.pointer (some ⟨w.heap.size + 1, 0, none⟩), .int .u64 (n + 1 : Nat), .bool true]) ∧
      Queue w' b (L ++ [w.heap.size + 1]) (nextOf false starving st) 1 (n + 1) ∧ (∃ pv nx l, WaitAt (w.heap.size + 1) pv nx (n + 1 : Nat) l (rdy d (w.heap.size + 2)) w') ∧ Onto (b :: L) w w' := by
  obtain ⟨h, t, m⟩ := Q.mutAt
  have m1 := m.set1 1
  have hQ : ∀ x, Queue (((w.setCell ⟨b, 1, none⟩ (.int .i32 1)).setCell ⟨b, 0, none⟩ (.int .i32 x)).alloc (.cells #[.pointer (some ⟨b, 1, none⟩)] 46)).drew b L x 1 n := fun x =>
    (Q.turn x 1 (((((Onto.refl _ _).setCell _ (.inl (by simp))).setCell _ (.inl (by simp))).alloc _ _).drew) fun _ _ m => ((m.set1 1).set0 x).alloc _)
  have hO : ∀ x, Onto (b :: L) w (((w.setCell ⟨b, 1, none⟩ (.int .i32 1)).setCell ⟨b, 0, none⟩ (.int .i32 x)).alloc (.cells #[.pointer (some ⟨b, 1, none⟩)] 46)).drew := fun x =>
    (((((Onto.refl _ _).setCell _ (.inl (by simp))).setCell _ (.inl (by simp))).alloc _ _).drew)
  clear Q
  cases starving
  all_goals
    go_enter Yba.func8, Yba.ntmps8
    go_wp2_with (first
      | (go_at_call 22; refine (lock_free m).mono ?_; rintro e w' ⟨rfl, rfl⟩)
      | (go_at_call 9; refine (load_st m1).mono ?_; rintro e w' ⟨rfl, rfl⟩)
      | (go_at_call 23; refine (cas_st m1 _).mono ?_; rintro e w' ⟨rfl, rfl⟩))
    go_region_with (go_at_call 6; refine (push_queue_at n hn (nb := w.heap.size + 1) (by simp) (hQ _) _ _ _).mono ?_; rintro e w' ⟨rfl, hq', ⟨pv, nx, hw'⟩, o'⟩)
    go_wp2
    go_ret3
    exact ⟨rfl, hq', ⟨pv, nx, _, hw'⟩, (hO _).trans o' fun c hc => .inl hc⟩

set_option maxRecDepth 100000 in
set_option maxHeartbeats 1000000 in
theorem enqueue_front1 {w : World} {b : Nat} {L : List Nat} {st : Int} (n : Nat) (hn : n ≤ 100) (Q : Queue w b L st 0 n) (woken starving : Bool) (d : Option Nat) (h1 : (bits .and .i32 st 1 == 0) = false) :
    Calls Yba.prog 8 #[.pointer (some ⟨b, 0, none⟩), .bool true, .bool woken, .bool starving, .chan d] w fun e w' => e = .returned (.tuple #[.pointer (some ⟨w.heap.size + 1, 0, none⟩), .int .u64 (n + 1 : Nat), .bool true]) ∧
      Queue w' b ((w.heap.size + 1) :: L) (nextOf woken starving st) 1 (n + 1) ∧ (∃ pv nx l, WaitAt (w.heap.size + 1) pv nx (n + 1 : Nat) l (rdy d (w.heap.size + 2)) w') ∧ Onto (b :: L) w w' := by
  obtain ⟨h, t, m⟩ := Q.mutAt
  have m1 := m.set1 1
  have hQ : ∀ x, Queue (((w.setCell ⟨b, 1, none⟩ (.int .i32 1)).setCell ⟨b, 0, none⟩ (.int .i32 x)).alloc (.cells #[.pointer (some ⟨b, 1, none⟩)] 46)).drew b L x 1 n := fun x =>
    (Q.turn x 1 (((((Onto.refl _ _).setCell _ (.inl (by simp))).setCell _ (.inl (by simp))).alloc _ _).drew) fun _ _ m => ((m.set1 1).set0 x).alloc _)
  have hO : ∀ x, Onto (b :: L) w (((w.setCell ⟨b, 1, none⟩ (.int .i32 1)).setCell ⟨b, 0, none⟩ (.int .i32 x)).alloc (.cells #[.pointer (some ⟨b, 1, none⟩)] 46)).drew := fun x =>
    (((((Onto.refl _ _).setCell _ (.inl (by simp))).setCell _ (.inl (by simp))).alloc _ _).drew)
  clear Q
  cases woken <;> cases starving
  all_goals
    go_enter Yba.func8, Yba.ntmps8
    go_wp2_with (first
      | (go_at_call 22; refine (lock_free m).mono ?_; rintro e w' ⟨rfl, rfl⟩)
      | (go_at_call 9; refine (load_st m1).mono ?_; rintro e w' ⟨rfl, rfl⟩)
      | (go_at_call 23; refine (cas_st m1 _).mono ?_; rintro e w' ⟨rfl, rfl⟩))
    go_region_with (go_at_call 24; refine (front_queue_at n hn (nb := w.heap.size + 1) (by simp) (hQ _) _ _ _).mono ?_; rintro e w' ⟨rfl, hq', ⟨pv, nx, hw'⟩, o'⟩)
    go_wp2
    go_ret3
    exact ⟨rfl, hq', ⟨pv, nx, _, hw'⟩, (hO _).trans o' fun c hc => .inl hc⟩

set_option maxRecDepth 100000 in
set_option maxHeartbeats 1000000 in
theorem enqueue_front2 {w : World} {b : Nat} {L : List Nat} {st : Int} (n : Nat) (hn : n ≤ 100) (Q : Queue w b L st 0 n) (starving : Bool) (d : Option Nat) (h1 : (bits .and .i32 st 1 == 0) = true) (h2 : (bits .and .i32 st 2 == 0) = false) :
    Calls Yba.prog 8 #[.pointer (some ⟨b, 0, none⟩), .bool true, .bool false, .bool starving, .chan d] w fun e w' => e = .returned (.tuple #[.pointer (some ⟨w.heap.size + 1, 0, none⟩), .int .u64 (n + 1 : Nat), .bool true]) ∧
      Queue w' b ((w.heap.size + 1) :: L) (nextOf false starving st) 1 (n + 1) ∧ (∃ pv nx l, WaitAt (w.heap.size + 1) pv nx (n + 1 : Nat) l (rdy d (w.heap.size + 2)) w') ∧ Onto (b :: L) w w' := by
  obtain ⟨h, t, m⟩ := Q.mutAt
  have m1 := m.set1 1
  have hQ : ∀ x, Queue (((w.setCell ⟨b, 1, none⟩ (.int .i32 1)).setCell ⟨b, 0, none⟩ (.int .i32 x)).alloc (.cells #[.pointer (some ⟨b, 1, none⟩)] 46)).drew b L x 1 n := fun x =>
    (Q.turn x 1 (((((Onto.refl _ _).setCell _ (.inl (by simp))).setCell _ (.inl (by simp))).alloc _ _).drew) fun _ _ m => ((m.set1 1).set0 x).alloc _)
  have hO : ∀ x, Onto (b :: L) w (((w.setCell ⟨b, 1, none⟩ (.int .i32 1)).setCell ⟨b, 0, none⟩ (.int .i32 x)).alloc (.cells #[.pointer (some ⟨b, 1, none⟩)] 46)).drew := fun x =>
    (((((Onto.refl _ _).setCell _ (.inl (by simp))).setCell _ (.inl (by simp))).alloc _ _).drew)
  clear Q
  cases starving
  all_goals
    go_enter Yba.func8, Yba.ntmps8
    go_wp2_with (first
      | (go_at_call 22; refine (lock_free m).mono ?_; rintro e w' ⟨rfl, rfl⟩)
      | (go_at_call 9; refine (load_st m1).mono ?_; rintro e w' ⟨rfl, rfl⟩)
      | (go_at_call 23; refine (cas_st m1 _).mono ?_; rintro e w' ⟨rfl, rfl⟩))
    go_region_with (go_at_call 24; refine (front_queue_at n hn (nb := w.heap.size + 1) (by simp) (hQ _) _ _ _).mono ?_; rintro e w' ⟨rfl, hq', ⟨pv, nx, hw'⟩, o'⟩)
    go_wp2
    go_ret3
    exact ⟨rfl, hq', ⟨pv, nx, _, hw'⟩, (hO _).trans o' fun c hc => .inl hc⟩

/-- enqueue where it queues, both ends. -/
theorem enqueue_any {w : World} {b : Nat} {L : List Nat} {st : Int} (n : Nat) (hn : n ≤ 100) (Q : Queue w b L st 0 n) (again woken starving : Bool) (d : Option Nat)
    (hq : (bits .and .i32 st 1 == 0) = false ∨ ((bits .and .i32 st 1 == 0) = true ∧ woken = false ∧ (bits .and .i32 st 2 == 0) = false)) :
    Calls Yba.prog 8 #[.pointer (some ⟨b, 0, none⟩), .bool again, .bool woken, .bool starving, .chan d] w fun e w' => e = .returned (.tuple #[.pointer (some ⟨w.heap.size + 1, 0, none⟩), .int .u64 (n + 1 : Nat), .bool true]) ∧
      Queue w' b (bif again then (w.heap.size + 1) :: L else L ++ [w.heap.size + 1]) (nextOf woken starving st) 1 (n + 1) ∧ (∃ pv nx l, WaitAt (w.heap.size + 1) pv nx (n + 1 : Nat) l (rdy d (w.heap.size + 2)) w') ∧ Onto (b :: L) w w' := by
  rcases hq with h1 | ⟨h1, rfl, h2⟩
  · cases again
    · exact enqueue_back1 n hn Q woken starving d h1
    · exact enqueue_front1 n hn Q woken starving d h1
  · cases again
    · exact enqueue_back2 n hn Q starving d h1 h2
    · exact enqueue_front2 n hn Q starving d h1 h2
end Go.Proofs.Ybulkaslm
