/-
  The walks that LawS2196CApart and LawS2196CMarks share: sync/atomic's pointer operations, (*atomic.Pointer[Cond]).Load, .Store, .CompareAndSwap, (*atomic.Uint32).Load, .Store, NewCond, checkFirstUse, checkCopy.
-/
import Derived.Test.YbulkaslmRows
import Derived.WalkKit
import Derived.ProofKit
import Derived.OpenShut
import Derived.Handy
import Derived.Laws.LoneSync
import Derived.LaidEqlPtr
import Derived.Lib.Builder
namespace Go.Proofs.Ybulkaslm
open Go.ChangeShapes Go.WideShapes Go.ChangeAt Go.RowKit

section
variable {P : Program} {f : FuncId} {fn : Func}

/-- sync/atomic.LoadPointer: what the cell holds. -/
theorem run_call_loadp (hf : P.funcs[f]? = some fn) (hname : (fn.name == "runtime.NumGoroutine") = false) (hb : fn.body.isNone = true) (hn : Extern.findNext fn = none)
    (he : Extern.find fn = some (Extern.Atomic.loadT .ptr)) {a : Addr} {x : Option Addr} {w : World} (hc : w.cell? a = some (.pointer x)) :
    (callFunc f #[.pointer (some a)]).run P w = .ok (.value (.pointer x)) w := by
  rw [run_callFunc_extern hf hname hb hn he]
  change (Sem.run P (do Extern.Atomic.read .ptr (← asAddr (.pointer (some a)))) w).andThen _ = _
  simp [Extern.Atomic.read, asAddr, hc, Result.andThen]

/-- sync/atomic.StorePointer. -/
theorem run_call_storep (hf : P.funcs[f]? = some fn) (hname : (fn.name == "runtime.NumGoroutine") = false) (hb : fn.body.isNone = true) (hn : Extern.findNext fn = none)
    (he : Extern.find fn = some Extern.Atomic.storeT) {a : Addr} {y : Option Addr} {u : Value} {w : World} (hc : w.cell? a = some u) (hz : w.frozen? a = false) :
    (callFunc f #[.pointer (some a), .pointer y]).run P w = .ok (.value (.tuple #[])) (w.setCell a (.pointer y)) := by
  rw [run_callFunc_extern hf hname hb hn he]
  change (Sem.run P (do
    store (← asAddr (.pointer (some a))) (.pointer y) .atomic
    pure Extern.Atomic.none_) w).andThen _ = _
  simp [asAddr, hc, hz, run_store P w a (.pointer y) .atomic rfl, Result.andThen, Extern.Atomic.none_]

/-- sync/atomic.CompareAndSwapPointer, old nil, the cell nil: stored; true. -/
theorem run_call_casp_hit (hf : P.funcs[f]? = some fn) (hname : (fn.name == "runtime.NumGoroutine") = false) (hb : fn.body.isNone = true) (hn : Extern.findNext fn = none)
    (he : Extern.find fn = some (Extern.Atomic.casT .ptr)) {a : Addr} {y : Option Addr} {w : World} (hc : w.cell? a = some (.pointer none)) (hz : w.frozen? a = false) :
    (callFunc f #[.pointer (some a), .pointer none, .pointer y]).run P w = .ok (.value (.bool true)) (w.setCell a (.pointer y)) := by
  rw [run_callFunc_extern hf hname hb hn he]
  change (Sem.run P (asAddr (.pointer (some a)) >>= _) w).andThen _ = _
  simp [Array.getLit, Extern.Atomic.touchesFrozen, Extern.Atomic.read, samePointer, asAddr, viewAt, World.shape?_isSome_of_cell? hc, hc, hz, run_store P w a (.pointer y) .atomic rfl, Result.andThen]

/-- sync/atomic.CompareAndSwapPointer, old nil, the cell not nil: nothing; false. -/
theorem run_call_casp_miss (hf : P.funcs[f]? = some fn) (hname : (fn.name == "runtime.NumGoroutine") = false) (hb : fn.body.isNone = true) (hn : Extern.findNext fn = none)
    (he : Extern.find fn = some (Extern.Atomic.casT .ptr)) {a x : Addr} {y : Option Addr} {w : World} (hc : w.cell? a = some (.pointer (some x))) (hz : w.frozen? a = false) :
    (callFunc f #[.pointer (some a), .pointer none, .pointer y]).run P w = .ok (.value (.bool false)) w := by
  rw [run_callFunc_extern hf hname hb hn he]
  change (Sem.run P (asAddr (.pointer (some a)) >>= _) w).andThen _ = _
  simp [Array.getLit, Extern.Atomic.touchesFrozen, Extern.Atomic.read, samePointer, asAddr, viewAt, World.shape?_isSome_of_cell? hc, hc, hz, Result.andThen]
end

/-- A Cond in a block of its own: its locker nil, its queue empty; 'self' holds p, 'state' holds s. -/
def condObj (p : Option Addr) (s : Int) : Obj := .cells #[.nilIface, .pointer p, .int .u32 s, .pointer none, .pointer none, .pointer none, .int .i64 0, .int .u64 0] 76 (0, 0)
def CondAt (b : Nat) (p : Option Addr) (s : Int) (w : World) : Prop := w.heap[b]? = some (condObj p s)

theorem CondAt.c0 {b : Nat} {p : Option Addr} {s : Int} {w : World} (h : CondAt b p s w) : w.cell? ⟨b, 0, none⟩ = some .nilIface := by
  unfold CondAt condObj at h; simp [World.cell?, h]
theorem CondAt.c1 {b : Nat} {p : Option Addr} {s : Int} {w : World} (h : CondAt b p s w) : w.cell? ⟨b, 1, none⟩ = some (.pointer p) := by
  unfold CondAt condObj at h; simp [World.cell?, h]
theorem CondAt.c2 {b : Nat} {p : Option Addr} {s : Int} {w : World} (h : CondAt b p s w) : w.cell? ⟨b, 2, none⟩ = some (.int .u32 s) := by
  unfold CondAt condObj at h; simp [World.cell?, h]
theorem CondAt.fz {b : Nat} {p : Option Addr} {s : Int} {w : World} (h : CondAt b p s w) (o : Nat) : w.frozen? ⟨b, o, none⟩ = false := by
  unfold CondAt condObj at h; simp [World.frozen?, h]
theorem CondAt.shape {b : Nat} {p : Option Addr} {s : Int} {w : World} (h : CondAt b p s w) : w.shape? b = some (76, 8) := by
  unfold CondAt condObj at h; simp [World.shape?, h]
theorem CondAt.set1 {b : Nat} {p q : Option Addr} {s : Int} {w : World} (h : CondAt b p s w) : CondAt b q s (w.setCell ⟨b, 1, none⟩ (.pointer q)) := by
  unfold CondAt condObj at *; simp [World.setCell, Array.getElem?_modify, h]
theorem CondAt.set2 {b : Nat} {p : Option Addr} {s t : Int} {w : World} (h : CondAt b p s w) : CondAt b p t (w.setCell ⟨b, 2, none⟩ (.int .u32 t)) := by
  unfold CondAt condObj at *; simp [World.setCell, Array.getElem?_modify, h]
theorem CondAt.other {b : Nat} {p : Option Addr} {s : Int} {w : World} (h : CondAt b p s w) {a : Addr} (v : Value) (hne : a.block ≠ b) : CondAt b p s (w.setCell a v) := by
  unfold CondAt at *
  simp only [World.setCell, Array.getElem?_modify]
  rw [if_neg hne]; exact h

theorem info68 : (Yba.prog.info? 76).map (fun i => decide (i.size = 0)) = some false := by kernel_rfl
theorem lies76 : liesAt Yba.prog Yba.prog.depth 76 (8 / Yba.prog.cellsOf 76) 0 76 1 = true := by kernel_rfl

theorem info76 : ∃ j, Yba.prog.info? 76 = some j := by
  have h : (Yba.prog.info? 76).isSome = true := by kernel_rfl
  exact Option.isSome_iff_exists.1 h

theorem conv_back {b : Nat} {p : Option Addr} {s : Int} {w : World} (h : CondAt b p s w) : (convert 59 68 (.pointer (some ⟨b, 0, none⟩))).run Yba.prog w = .ok (.pointer (some ⟨b, 0, none⟩)) w := by
  obtain ⟨j, hj⟩ := info76
  have hsh := h.shape
  have hl := lies76
  simp only [convert, Sem.run_bind, run_underlying Yba.underlying59, run_underlying Yba.underlying68, Result.andThen]
  change Sem.run Yba.prog (underlying 59 >>= _) w = _
  simp [run_underlying Yba.underlying59, run_underlying Yba.underlying68, Conv.seenAt, viewAt, hsh, variablesAt, hl, sizeOf, typeInfo, hj]
theorem conv_back_nil (w : World) : (convert 59 68 (.pointer none)).run Yba.prog w = .ok (.pointer none) w := by kernel_rfl
theorem conv_out_nil (w : World) : (convert 68 59 (.pointer none)).run Yba.prog w = .ok (.pointer none) w := by kernel_rfl
theorem conv_out {b : Nat} {p : Option Addr} {s : Int} {w : World} (h : CondAt b p s w) : (convert 68 59 (.pointer (some ⟨b, 0, none⟩))).run Yba.prog w = .ok (.pointer (some ⟨b, 0, none⟩)) w := by
  obtain ⟨j, hj⟩ := info76
  have hz : j.size ≠ 0 := by have := info68; rw [hj] at this; simpa using this
  have hsh := h.shape
  simp only [convert, Sem.run_bind, run_underlying Yba.underlying59, run_underlying Yba.underlying68, Result.andThen]
  change Sem.run Yba.prog (underlying 68 >>= _) w = _
  simp [run_underlying Yba.underlying59, run_underlying Yba.underlying68, Conv.seenAt, viewAt, cellsIn, hsh, sizeOf, typeInfo, hj, hz]

theorem load_self {b : Nat} {s : Int} {w : World} (h : CondAt b (some ⟨b, 0, none⟩) s w) :
    Calls Yba.prog 17 #[.pointer (some ⟨b, 1, none⟩)] w fun e w' => e = .returned (.pointer (some ⟨b, 0, none⟩)) ∧ w' = w := by
  have hl := run_call_loadp (P := Yba.prog) Yba.func31 (by kernel_rfl) (by kernel_rfl) (by kernel_rfl) (by kernel_rfl) h.c1
  have hf := conv_back h
  clear h
  go_enter Yba.func17, Yba.ntmps17
  go_wp2
  go_ret
  exact ⟨rfl, rfl⟩

theorem load_nil {b : Nat} {s : Int} {w : World} (h : CondAt b none s w) :
    Calls Yba.prog 17 #[.pointer (some ⟨b, 1, none⟩)] w fun e w' => e = .returned (.pointer none) ∧ w' = w := by
  have hl := run_call_loadp (P := Yba.prog) Yba.func31 (by kernel_rfl) (by kernel_rfl) (by kernel_rfl) (by kernel_rfl) h.c1
  have hf := conv_back_nil w
  clear h
  go_enter Yba.func17, Yba.ntmps17
  go_wp2
  go_ret
  exact ⟨rfl, rfl⟩

theorem load_state {b : Nat} {p : Option Addr} {s : Int} {w : World} (h : CondAt b p s w) :
    Calls Yba.prog 18 #[.pointer (some ⟨b, 2, none⟩)] w fun e w' => e = .returned (.int .u32 s) ∧ w' = w := by
  have hl := run_call_load (P := Yba.prog) Yba.func32 (by kernel_rfl) (by kernel_rfl) (by kernel_rfl) .u32 (by kernel_rfl) h.c2
  clear h
  go_enter Yba.func18, Yba.ntmps18
  go_wp2
  go_ret
  exact ⟨rfl, rfl⟩

theorem store_state {b : Nat} {p : Option Addr} {s : Int} {w : World} (t : Int) (h : CondAt b p s w) :
    Calls Yba.prog 14 #[.pointer (some ⟨b, 2, none⟩), .int .u32 t] w fun e w' => e = .returned (.tuple #[]) ∧ w' = w.setCell ⟨b, 2, none⟩ (.int .u32 t) := by
  have hl := run_call_store (P := Yba.prog) Yba.func28 (by kernel_rfl) (by kernel_rfl) (by kernel_rfl) (by kernel_rfl) (k := .u32) (y := t) h.c2 (h.fz 2)
  clear h
  go_enter Yba.func14, Yba.ntmps14
  go_wp2
  go_returns
  exact ⟨rfl, rfl⟩

theorem store_self {b : Nat} {p : Option Addr} {s : Int} {w : World} (h : CondAt b p s w) :
    Calls Yba.prog 15 #[.pointer (some ⟨b, 1, none⟩), .pointer (some ⟨b, 0, none⟩)] w fun e w' => e = .returned (.tuple #[]) ∧ w' = w.setCell ⟨b, 1, none⟩ (.pointer (some ⟨b, 0, none⟩)) := by
  have hl := run_call_storep (P := Yba.prog) Yba.func29 (by kernel_rfl) (by kernel_rfl) (by kernel_rfl) (by kernel_rfl) (y := some ⟨b, 0, none⟩) h.c1 (h.fz 1)
  have hu := conv_out h
  clear h
  go_enter Yba.func15, Yba.ntmps15
  go_wp2
  go_returns
  exact ⟨rfl, rfl⟩

theorem cas_first {b : Nat} {s : Int} {w : World} (h : CondAt b none s w) :
    Calls Yba.prog 30 #[.pointer (some ⟨b, 1, none⟩), .pointer none, .pointer (some ⟨b, 0, none⟩)] w fun e w' => e = .returned (.bool true) ∧ w' = w.setCell ⟨b, 1, none⟩ (.pointer (some ⟨b, 0, none⟩)) := by
  have hl := run_call_casp_hit (P := Yba.prog) Yba.func41 (by kernel_rfl) (by kernel_rfl) (by kernel_rfl) (by kernel_rfl) (y := some ⟨b, 0, none⟩) h.c1 (h.fz 1)
  have hu := conv_out h
  have hn := conv_out_nil w
  clear h
  go_enter Yba.func30, Yba.ntmps30
  go_wp2
  go_ret
  exact ⟨rfl, rfl⟩

theorem cas_later {b : Nat} {x : Addr} {s : Int} {w : World} (h : CondAt b (some x) s w) :
    Calls Yba.prog 30 #[.pointer (some ⟨b, 1, none⟩), .pointer none, .pointer (some ⟨b, 0, none⟩)] w fun e w' => e = .returned (.bool false) ∧ w' = w := by
  have hl := run_call_casp_miss (P := Yba.prog) Yba.func41 (by kernel_rfl) (by kernel_rfl) (by kernel_rfl) (by kernel_rfl) (y := some ⟨b, 0, none⟩) h.c1 (h.fz 1)
  have hu := conv_out h
  have hn := conv_out_nil w
  clear h
  go_enter Yba.func30, Yba.ntmps30
  go_wp2
  go_ret
  exact ⟨rfl, rfl⟩

theorem neq_self (a : Addr) (w : World) : (binOp .neq 68 (.pointer (some a)) (.pointer (some a))).run Yba.prog w = .ok (.bool false) w := by
  obtain ⟨j, hj⟩ := info76
  exact Go.Lib.run_neq_ptr_same w a Yba.underlying68 hj
theorem eql_self (a : Addr) (w : World) : (binOp .eql 68 (.pointer (some a)) (.pointer (some a))).run Yba.prog w = .ok (.bool true) w := by
  obtain ⟨j, hj⟩ := info76
  exact run_eql_ptr_same w a Yba.underlying68 hj

theorem first_use {b : Nat} {s : Int} {w : World} (h : CondAt b none s w) :
    Calls Yba.prog 16 #[.pointer (some ⟨b, 0, none⟩)] w fun e w' => e = .returned (.tuple #[]) ∧ w' = w.setCell ⟨b, 1, none⟩ (.pointer (some ⟨b, 0, none⟩)) := by
  go_enter Yba.func16, Yba.ntmps16
  go_wp2_with (go_at_call 30; refine (cas_first h).mono ?_; rintro e w' ⟨rfl, rfl⟩)
  go_returns
  exact ⟨rfl, rfl⟩

theorem later_use {b : Nat} {s : Int} {w : World} (h : CondAt b (some ⟨b, 0, none⟩) s w) :
    Calls Yba.prog 16 #[.pointer (some ⟨b, 0, none⟩)] w fun e w' => e = .returned (.tuple #[]) ∧ w' = w := by
  have hne := neq_self ⟨b, 0, none⟩ w
  go_enter Yba.func16, Yba.ntmps16
  go_wp2_with (first | (go_at_call 30; refine (cas_later h).mono ?_; rintro e w' ⟨rfl, rfl⟩) | (go_at_call 17; refine (load_self h).mono ?_; rintro e w' ⟨rfl, rfl⟩))
  go_returns
  exact ⟨rfl, rfl⟩

/-- What a marking does to the world: nothing, or the one store of the mark. -/
def Marks (b : Nat) (w w' : World) : Prop := w' = w ∨ w' = w.setCell ⟨b, 1, none⟩ (.pointer (some ⟨b, 0, none⟩))

theorem Marks.grown {b : Nat} {W w w' : World} (m : Marks b w w') (hg : Grown W w) (hb : W.heap.size ≤ b) : Grown W w' := by
  rcases m with rfl | rfl
  · exact hg
  · exact hg.setCell (a := ⟨b, 1, none⟩) hb _
theorem Marks.other {b c : Nat} {p : Option Addr} {s : Int} {w w' : World} (m : Marks b w w') (h : CondAt c p s w) (hne : b ≠ c) : CondAt c p s w' := by
  rcases m with rfl | rfl
  · exact h
  · exact h.other _ hne

/-- A Cond as a law holds it: fresh, or marked as its own. -/
def Own (b : Nat) (s : Int) (w : World) : Prop := CondAt b none s w ∨ CondAt b (some ⟨b, 0, none⟩) s w

theorem Marks.own {b c : Nat} {s : Int} {w w' : World} (m : Marks b w w') (h : Own c s w) (hne : b ≠ c) : Own c s w' :=
  h.elim (fun h => .inl (m.other h hne)) (fun h => .inr (m.other h hne))

theorem use_any {b : Nat} {s : Int} {w : World} (h : Own b s w) :
    Calls Yba.prog 16 #[.pointer (some ⟨b, 0, none⟩)] w fun e w' => e = .returned (.tuple #[]) ∧ CondAt b (some ⟨b, 0, none⟩) s w' ∧ Marks b w w' := by
  rcases h with h | h
  · refine (first_use h).mono ?_
    rintro e w' ⟨rfl, rfl⟩
    exact ⟨rfl, h.set1, .inr rfl⟩
  · refine (later_use h).mono ?_
    rintro e w' ⟨rfl, rfl⟩
    exact ⟨rfl, h, .inl rfl⟩

theorem neq_nil (a : Addr) (w : World) : (binOp .neq 68 (.pointer none) (.pointer (some a))).run Yba.prog w = .ok (.bool true) w := by
  have h : ∀ d : Nat, (Op.equalIn (d + 1) 68 (.pointer none) (.pointer (some a))).run Yba.prog w = .ok false w := fun d => by
    simp [Op.equalIn, run_underlying Yba.underlying68]
  simp only [binOp]
  simp [Op.equal, Op.maxDepth, h 9999]

theorem copy_any {b : Nat} {s : Int} {w : World} (h : Own b s w) :
    Calls Yba.prog 19 #[.pointer (some ⟨b, 0, none⟩)] w fun e w' => e = .returned (.tuple #[]) ∧ CondAt b (some ⟨b, 0, none⟩) s w' ∧ Marks b w w' := by
  rcases h with h | h
  · have hne := neq_nil ⟨b, 0, none⟩ w
    go_enter Yba.func19, Yba.ntmps19
    go_wp2_with (first | (go_at_call 17; refine (load_nil h).mono ?_; rintro e w' ⟨rfl, rfl⟩) | (go_at_call 16; refine (use_any (.inl h)).mono ?_; rintro e w' ⟨rfl, hc, hm⟩))
    go_returns
    exact ⟨rfl, hc, hm⟩
  · have hne := neq_self ⟨b, 0, none⟩ w
    go_enter Yba.func19, Yba.ntmps19
    go_wp2_with (first | (go_at_call 17; refine (load_self h).mono ?_; rintro e w' ⟨rfl, rfl⟩))
    go_returns
    exact ⟨rfl, h, .inl rfl⟩

theorem new_cond (w : World) :
    Calls Yba.prog 13 #[.nilIface] w fun e w' => e = .returned (.pointer (some ⟨w.heap.size, 0, none⟩)) ∧ w' = w.alloc (condObj none 0) := by
  go_enter Yba.func13, Yba.ntmps13
  go_wp2
  go_ret
  exact ⟨rfl, rfl⟩

theorem CondAt.new (w : World) : CondAt w.heap.size none 0 (w.alloc (condObj none 0)) := by
  exact (MapKept.heap_alloc w _).1
theorem CondAt.alloc {b : Nat} {p : Option Addr} {s : Int} {w : World} (h : CondAt b p s w) (o : Obj) : CondAt b p s (w.alloc o) := by
  unfold CondAt at *
  have hlt : b < w.heap.size := by
    rcases Nat.lt_or_ge b w.heap.size with h' | h'
    · exact h'
    · simp [Array.getElem?_eq_none h'] at h
  rw [(MapKept.heap_alloc w o).2 b hlt]; exact h
end Go.Proofs.Ybulkaslm
