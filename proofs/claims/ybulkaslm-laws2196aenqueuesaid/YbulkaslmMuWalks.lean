/-
  For LawS2196AEnqueue: (*atomic.Int32).Load, .Store, .CompareAndSwap, (*sync.Mutex).Lock, .Unlock, .TryLock, on the fields of one latchwork.Mutex, one goroutine.
-/
import Derived.Test.YbulkaslmQueueLaws
namespace Go.Proofs.Ybulkaslm
open Go.ChangeShapes Go.WideShapes Go.ChangeAt Go.RowKit

section
variable {b : Nat} {st mu n : Int} {h t : Value} {w : World}

theorem load_st (m : MutAt b st mu h t n w) :
    Calls Yba.prog 9 #[.pointer (some ⟨b, 0, none⟩)] w fun e w' => e = .returned (.int .i32 st) ∧ w' = w := by
  have hl := run_call_load (P := Yba.prog) Yba.func25 (by kernel_rfl) (by kernel_rfl) (by kernel_rfl) .i32 (by kernel_rfl) m.cells.1
  clear m
  go_enter Yba.func9, Yba.ntmps9
  go_wp2
  go_ret
  exact ⟨rfl, rfl⟩

theorem store_st (m : MutAt b st mu h t n w) (x : Int) :
    Calls Yba.prog 7 #[.pointer (some ⟨b, 0, none⟩), .int .i32 x] w fun e w' => e = .returned (.tuple #[]) ∧ w' = w.setCell ⟨b, 0, none⟩ (.int .i32 x) := by
  have hl := run_call_store (P := Yba.prog) Yba.func21 (by kernel_rfl) (by kernel_rfl) (by kernel_rfl) (by kernel_rfl) (k := .i32) (y := x) m.cells.1 (m.fz 0)
  clear m
  go_enter Yba.func7, Yba.ntmps7
  go_wp2
  go_returns
  exact ⟨rfl, rfl⟩

theorem cas_st (m : MutAt b st mu h t n w) (x : Int) :
    Calls Yba.prog 23 #[.pointer (some ⟨b, 0, none⟩), .int .i32 st, .int .i32 x] w fun e w' => e = .returned (.bool true) ∧ w' = w.setCell ⟨b, 0, none⟩ (.int .i32 x) := by
  have hl := run_call_cas_hit (P := Yba.prog) Yba.func34 (by kernel_rfl) (by kernel_rfl) (by kernel_rfl) .i32 (by kernel_rfl) (y := x) m.cells.1 (m.fz 0)
  clear m
  go_enter Yba.func23, Yba.ntmps23
  go_wp2
  go_ret
  exact ⟨rfl, rfl⟩

theorem info30 : ∃ j, Yba.prog.info? 30 = some j ∧ j.size ≠ 0 := by
  have h : (Yba.prog.info? 30).isSome = true := by kernel_rfl
  obtain ⟨j, hj⟩ := Option.isSome_iff_exists.1 h
  have hz : (Yba.prog.info? 30).map (fun i => decide (i.size = 0)) = some false := by kernel_rfl
  rw [hj] at hz
  exact ⟨j, hj, by simpa using hz⟩

theorem mu_conv (hsh : w.shape? b = some (43, 11)) : (convert 101 59 (.pointer (some ⟨b, 1, none⟩))).run Yba.prog w = .ok (.pointer (some ⟨b, 1, none⟩)) w := by
  obtain ⟨j, hj, hz⟩ := info30
  simp only [convert, Sem.run_bind, run_underlying Yba.underlying59, run_underlying Yba.underlying101, Result.andThen]
  change Sem.run Yba.prog (underlying 101 >>= _) w = _
  simp [run_underlying Yba.underlying59, run_underlying Yba.underlying101, Conv.seenAt, viewAt, cellsIn, hsh, sizeOf, typeInfo, hj, hz]

theorem disable (w : World) : (callFunc 35 #[]).run Yba.prog w = .ok (.value (.tuple #[])) w := run_call_mark0 Yba.func35 (by kernel_rfl) (by kernel_rfl) (by kernel_rfl) .disable (by kernel_rfl) w
theorem enable (w : World) : (callFunc 36 #[]).run Yba.prog w = .ok (.value (.tuple #[])) w := run_call_mark0 Yba.func36 (by kernel_rfl) (by kernel_rfl) (by kernel_rfl) .enable (by kernel_rfl) w
theorem acquire (a : Addr) (w : World) : (callFunc 37 #[.pointer (some a)]).run Yba.prog w = .ok (.value (.tuple #[])) w := run_call_marked Yba.func37 (by kernel_rfl) (by kernel_rfl) (by kernel_rfl) .acquire (by kernel_rfl) a w
theorem release (a : Addr) (w : World) : (callFunc 38 #[.pointer (some a)]).run Yba.prog w = .ok (.value (.tuple #[])) w := run_call_marked Yba.func38 (by kernel_rfl) (by kernel_rfl) (by kernel_rfl) .releaseMerge (by kernel_rfl) a w

set_option maxRecDepth 100000 in
/-- (*internal/sync.Mutex).Lock, (*sync.Mutex).Lock at a free lock. -/
theorem lock_in (m : MutAt b st 0 h t n w) :
    Calls Yba.prog 33 #[.pointer (some ⟨b, 1, none⟩)] w fun e w' => e = .returned (.tuple #[]) ∧ w' = w.setCell ⟨b, 1, none⟩ (.int .i32 1) := by
  have hl := run_call_cas_hit (P := Yba.prog) Yba.func34 (by kernel_rfl) (by kernel_rfl) (by kernel_rfl) .i32 (by kernel_rfl) (y := 1) m.cells.2.1 (m.fz 1)
  have hc := mu_conv (m.set1 1).shape
  have h1 := disable
  have h2 := enable
  have h3 := acquire
  clear m
  go_enter Yba.func33, Yba.ntmps33
  go_wp2
  go_returns
  exact ⟨rfl, rfl⟩
theorem lock_free (m : MutAt b st 0 h t n w) :
    Calls Yba.prog 22 #[.pointer (some ⟨b, 1, none⟩)] w fun e w' => e = .returned (.tuple #[]) ∧ w' = w.setCell ⟨b, 1, none⟩ (.int .i32 1) := by
  go_enter Yba.func22, Yba.ntmps22
  go_wp2_with (go_at_call 33; refine (lock_in m).mono ?_; rintro e w' ⟨rfl, rfl⟩)
  go_returns
  exact ⟨rfl, rfl⟩

set_option maxRecDepth 100000 in
/-- (*internal/sync.Mutex).Unlock, (*sync.Mutex).Unlock at a lock that is held, nobody waiting. -/
theorem unlock_in (m : MutAt b st 1 h t n w) :
    Calls Yba.prog 27 #[.pointer (some ⟨b, 1, none⟩)] w fun e w' => e = .returned (.tuple #[]) ∧ w' = w.setCell ⟨b, 1, none⟩ (.int .i32 0) := by
  have hl := run_call_add (P := Yba.prog) (w := w) Yba.func39 (by kernel_rfl) (by kernel_rfl) (by kernel_rfl) .i32 (by kernel_rfl) (y := -1) (s := 0) m.cells.2.1 (m.fz 1) (by simp [go_sem, IntKind.wrap_i32])
  have hc := mu_conv m.shape
  have hcell := m.cells.2.1
  have h1 := disable
  have h2 := enable
  have h3 := release
  clear m
  go_enter Yba.func27, Yba.ntmps27
  go_wp2
  go_returns
  exact ⟨rfl, rfl⟩
theorem unlock_held (m : MutAt b st 1 h t n w) :
    Calls Yba.prog 11 #[.pointer (some ⟨b, 1, none⟩)] w fun e w' => e = .returned (.tuple #[]) ∧ w' = w.setCell ⟨b, 1, none⟩ (.int .i32 0) := by
  go_enter Yba.func11, Yba.ntmps11
  go_wp2_with (go_at_call 27; refine (unlock_in m).mono ?_; rintro e w' ⟨rfl, rfl⟩)
  go_returns
  exact ⟨rfl, rfl⟩

set_option maxRecDepth 100000 in
/-- (*internal/sync.Mutex).TryLock, (*sync.Mutex).TryLock: at a free lock it locks; at one that is held it does nothing. -/
theorem try_in (m : MutAt b st 0 h t n w) :
    Calls Yba.prog 26 #[.pointer (some ⟨b, 1, none⟩)] w fun e w' => e = .returned (.bool true) ∧ w' = w.setCell ⟨b, 1, none⟩ (.int .i32 1) := by
  have hl := run_call_cas_hit (P := Yba.prog) Yba.func34 (by kernel_rfl) (by kernel_rfl) (by kernel_rfl) .i32 (by kernel_rfl) (y := 1) m.cells.2.1 (m.fz 1)
  have hc := mu_conv (m.set1 1).shape
  have hcell := m.cells.2.1
  have h1 := disable
  have h2 := enable
  have h3 := acquire
  clear m
  go_enter Yba.func26, Yba.ntmps26
  go_wp2
  go_ret
  exact ⟨rfl, rfl⟩
theorem try_free (m : MutAt b st 0 h t n w) :
    Calls Yba.prog 10 #[.pointer (some ⟨b, 1, none⟩)] w fun e w' => e = .returned (.bool true) ∧ w' = w.setCell ⟨b, 1, none⟩ (.int .i32 1) := by
  go_enter Yba.func10, Yba.ntmps10
  go_wp2_with (go_at_call 26; refine (try_in m).mono ?_; rintro e w' ⟨rfl, rfl⟩)
  go_ret
  exact ⟨rfl, rfl⟩
theorem try_in_not (m : MutAt b st 1 h t n w) :
    Calls Yba.prog 26 #[.pointer (some ⟨b, 1, none⟩)] w fun e w' => e = .returned (.bool false) ∧ w' = w := by
  have hcell := m.cells.2.1
  have h1 := disable
  have h2 := enable
  clear m
  go_enter Yba.func26, Yba.ntmps26
  go_wp2
  go_ret
  exact ⟨rfl, rfl⟩
theorem try_held (m : MutAt b st 1 h t n w) :
    Calls Yba.prog 10 #[.pointer (some ⟨b, 1, none⟩)] w fun e w' => e = .returned (.bool false) ∧ w' = w := by
  go_enter Yba.func10, Yba.ntmps10
  go_wp2_with (go_at_call 26; refine (try_in_not m).mono ?_; rintro e w' ⟨rfl, rfl⟩)
  go_ret
  exact ⟨rfl, rfl⟩
end
end Go.Proofs.Ybulkaslm
