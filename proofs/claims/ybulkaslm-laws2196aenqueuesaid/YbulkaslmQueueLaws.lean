/-
  For LawS2196AEnqueue: the Mutex's block, a waiter's block, and what stores, draws and new blocks leave of them.
-/
import Derived.Test.YbulkaslmRows
import Derived.WalkKit
import Derived.ProofKit
import Derived.OpenShut
import Derived.Handy
import Derived.Laws.LoneSync
import Derived.LaidEqlPtr
import Derived.Conc.SmallLaws
import Derived.Deep.RegionWith
namespace Go.Proofs.Ybulkaslm
open Go.ChangeShapes Go.WideShapes Go.ChangeAt Go.RowKit

/-- A pointer to the head of a block, or nil. -/
def pt (b : Option Nat) : Value := .pointer (b.map fun b => ⟨b, 0, none⟩)
/-- latchwork.Mutex: its state word st, its lock's word mu, its queue's head, tail and count; no spare. -/
def mutObj (st mu : Int) (h t : Value) (n : Int) : Obj :=
  .cells #[.int .i32 st, .int .i32 mu, .int .u32 0, h, t, .pointer none, .int .i64 0, .int .u64 n, .int .i64 0, .int .i32 0, .int .u64 0] 43 (0, 0)
/-- latchwork.waiter. -/
def waitObj (p nx : Value) (sq : Int) (l r : Value) : Obj :=
  .cells #[p, nx, .int .u64 sq, l, .int .u32 0, .int .u32 0, .int .u64 0, .pointer none, .pointer none, .int .u64 0, r, .int .i64 0] 66 (0, 0)
def MutAt (b : Nat) (st mu : Int) (h t : Value) (n : Int) (w : World) : Prop := w.heap[b]? = some (mutObj st mu h t n)
def WaitAt (b : Nat) (p nx : Value) (sq : Int) (l r : Value) (w : World) : Prop := w.heap[b]? = some (waitObj p nx sq l r)

theorem heap_lt {w : World} {b : Nat} {o : Obj} (h : w.heap[b]? = some o) : b < w.heap.size := by
  rcases Nat.lt_or_ge b w.heap.size with h' | h'
  · exact h'
  · simp [Array.getElem?_eq_none h'] at h
theorem heap_alloc_old {w : World} {b : Nat} {o : Obj} (h : w.heap[b]? = some o) (x : Obj) : (w.alloc x).heap[b]? = some o := by
  rw [(MapKept.heap_alloc w x).2 b (heap_lt h)]; exact h
theorem heap_set_other {w : World} {b : Nat} {o : Obj} (h : w.heap[b]? = some o) {a : Addr} (v : Value) (hne : a.block ≠ b) : (w.setCell a v).heap[b]? = some o := by
  simp only [World.setCell, Array.getElem?_modify]
  rw [if_neg hne]; exact h

section
variable {b : Nat} {st mu n : Int} {h t : Value} {w : World}
theorem MutAt.cells (m : MutAt b st mu h t n w) : w.cell? ⟨b, 0, none⟩ = some (.int .i32 st) ∧ w.cell? ⟨b, 1, none⟩ = some (.int .i32 mu) ∧ w.cell? ⟨b, 3, none⟩ = some h ∧ w.cell? ⟨b, 4, none⟩ = some t ∧ w.cell? ⟨b, 5, none⟩ = some (.pointer none) ∧ w.cell? ⟨b, 7, none⟩ = some (.int .u64 n) := by
  unfold MutAt mutObj at m; simp [World.cell?, m]
theorem MutAt.fz (m : MutAt b st mu h t n w) (o : Nat) : w.frozen? ⟨b, o, none⟩ = false := by
  unfold MutAt mutObj at m; simp [World.frozen?, m]
theorem MutAt.shape (m : MutAt b st mu h t n w) : w.shape? b = some (43, 11) := by
  unfold MutAt mutObj at m; simp [World.shape?, m]
theorem MutAt.set0 (m : MutAt b st mu h t n w) (x : Int) : MutAt b x mu h t n (w.setCell ⟨b, 0, none⟩ (.int .i32 x)) := by
  unfold MutAt mutObj at *; simp [World.setCell, Array.getElem?_modify, m]
theorem MutAt.set1 (m : MutAt b st mu h t n w) (x : Int) : MutAt b st x h t n (w.setCell ⟨b, 1, none⟩ (.int .i32 x)) := by
  unfold MutAt mutObj at *; simp [World.setCell, Array.getElem?_modify, m]
theorem MutAt.set3 (m : MutAt b st mu h t n w) (x : Value) : MutAt b st mu x t n (w.setCell ⟨b, 3, none⟩ x) := by
  unfold MutAt mutObj at *; simp [World.setCell, Array.getElem?_modify, m]
theorem MutAt.set4 (m : MutAt b st mu h t n w) (x : Value) : MutAt b st mu h x n (w.setCell ⟨b, 4, none⟩ x) := by
  unfold MutAt mutObj at *; simp [World.setCell, Array.getElem?_modify, m]
theorem MutAt.set7 (m : MutAt b st mu h t n w) (x : Int) : MutAt b st mu h t x (w.setCell ⟨b, 7, none⟩ (.int .u64 x)) := by
  unfold MutAt mutObj at *; simp [World.setCell, Array.getElem?_modify, m]
theorem MutAt.other (m : MutAt b st mu h t n w) {a : Addr} (v : Value) (hne : a.block ≠ b) : MutAt b st mu h t n (w.setCell a v) := heap_set_other m v hne
theorem MutAt.alloc (m : MutAt b st mu h t n w) (x : Obj) : MutAt b st mu h t n (w.alloc x) := heap_alloc_old m x
end

section
variable {b : Nat} {sq : Int} {p nx l r : Value} {w : World}
theorem WaitAt.cells (m : WaitAt b p nx sq l r w) : w.cell? ⟨b, 0, none⟩ = some p ∧ w.cell? ⟨b, 1, none⟩ = some nx ∧ w.cell? ⟨b, 2, none⟩ = some (.int .u64 sq) ∧ w.cell? ⟨b, 10, none⟩ = some r := by
  unfold WaitAt waitObj at m; simp [World.cell?, m]
theorem WaitAt.fz (m : WaitAt b p nx sq l r w) (o : Nat) : w.frozen? ⟨b, o, none⟩ = false := by
  unfold WaitAt waitObj at m; simp [World.frozen?, m]
theorem WaitAt.set0 (m : WaitAt b p nx sq l r w) (x : Value) : WaitAt b x nx sq l r (w.setCell ⟨b, 0, none⟩ x) := by
  unfold WaitAt waitObj at *; simp [World.setCell, Array.getElem?_modify, m]
theorem WaitAt.set1 (m : WaitAt b p nx sq l r w) (x : Value) : WaitAt b p x sq l r (w.setCell ⟨b, 1, none⟩ x) := by
  unfold WaitAt waitObj at *; simp [World.setCell, Array.getElem?_modify, m]
theorem WaitAt.set2 (m : WaitAt b p nx sq l r w) (x : Int) : WaitAt b p nx x l r (w.setCell ⟨b, 2, none⟩ (.int .u64 x)) := by
  unfold WaitAt waitObj at *; simp [World.setCell, Array.getElem?_modify, m]
theorem WaitAt.set3 (m : WaitAt b p nx sq l r w) (x : Value) : WaitAt b p nx sq x r (w.setCell ⟨b, 3, none⟩ x) := by
  unfold WaitAt waitObj at *; simp [World.setCell, Array.getElem?_modify, m]
theorem WaitAt.set10 (m : WaitAt b p nx sq l r w) (x : Value) : WaitAt b p nx sq l x (w.setCell ⟨b, 10, none⟩ x) := by
  unfold WaitAt waitObj at *; simp [World.setCell, Array.getElem?_modify, m]
theorem WaitAt.other (m : WaitAt b p nx sq l r w) {a : Addr} (v : Value) (hne : a.block ≠ b) : WaitAt b p nx sq l r (w.setCell a v) := heap_set_other m v hne
theorem WaitAt.alloc (m : WaitAt b p nx sq l r w) (x : Obj) : WaitAt b p nx sq l r (w.alloc x) := heap_alloc_old m x
end

/-- A new channel is a new block, as a row of cells is. -/
theorem grown_alloc_chan {W w' : World} (h : Grown W w') (n a c : Nat) (xs : Array Value) (cl d : Bool) : Grown W (w'.alloc (.chan n xs cl a c d)) := by
  refine ⟨World.keptBut_trans h.1 (World.keptBut_alloc _ _ _), fun x => ?_, Nat.le_trans h.2.2 (by simp)⟩
  rw [← h.2.1 x]
  by_cases e : x.block = w'.heap.size
  · have e1 : (w'.alloc (.chan n xs cl a c d)).heap[x.block]? = some (.chan n xs cl a c d) := by rw [e]; exact (MapKept.heap_alloc w' _).1
    have e2 : w'.heap[x.block]? = none := by rw [e]; simp
    simp [World.frozen?, e1, e2]
  · exact World.frozen?_alloc_old _ _ _ e

/-- What a call may do whose only old blocks that it writes are those in S: the heap grows; the other old blocks stand; a caller's frame whose own blocks begin at or below S's stands. -/
def Onto (S : List Nat) (w w' : World) : Prop :=
  w.heap.size ≤ w'.heap.size ∧ (∀ c, c < w.heap.size → c ∉ S → w'.heap[c]? = w.heap[c]?) ∧ (∀ W, Grown W w → (∀ c ∈ S, W.heap.size ≤ c) → Grown W w')
theorem Onto.refl (S : List Nat) (w : World) : Onto S w w := ⟨Nat.le_refl _, fun _ _ _ => rfl, fun _ h _ => h⟩
theorem Onto.drew {S : List Nat} {w w' : World} (h : Onto S w w') : Onto S w w'.drew := ⟨h.1, h.2.1, fun W g s => (h.2.2 W g s).drew⟩
theorem Onto.alloc {S : List Nat} {w w' : World} (h : Onto S w w') (c : Array Value) (t : TypeId) : Onto S w (w'.alloc (.cells c t)) :=
  ⟨Nat.le_trans h.1 (by simp), fun i hi hs => by rw [(MapKept.heap_alloc w' _).2 i (Nat.lt_of_lt_of_le hi h.1)]; exact h.2.1 i hi hs, fun W g s => (h.2.2 W g s).alloc _ _⟩
theorem Onto.allocChan {S : List Nat} {w w' : World} (h : Onto S w w') (n a c : Nat) (xs : Array Value) (cl d : Bool) : Onto S w (w'.alloc (.chan n xs cl a c d)) :=
  ⟨Nat.le_trans h.1 (by simp), fun i hi hs => by rw [(MapKept.heap_alloc w' _).2 i (Nat.lt_of_lt_of_le hi h.1)]; exact h.2.1 i hi hs, fun W g s => grown_alloc_chan (h.2.2 W g s) _ _ _ _ _ _⟩
theorem Onto.setCell {S : List Nat} {w w' : World} (h : Onto S w w') {a : Addr} (v : Value) (ha : a.block ∈ S ∨ w.heap.size ≤ a.block) : Onto S w (w'.setCell a v) := by
  refine ⟨Nat.le_trans h.1 (by simp [World.setCell]), fun i hi hs => ?_, fun W g s => (h.2.2 W g s).setCell ?_ _⟩
  · rw [← h.2.1 i hi hs]
    simp only [World.setCell, Array.getElem?_modify]
    rw [if_neg]
    rintro rfl
    rcases ha with ha | ha
    · exact hs ha
    · omega
  · rcases ha with ha | ha
    · exact s _ ha
    · exact Nat.le_trans g.2.2 ha
theorem Onto.trans {S T : List Nat} {w w1 w2 : World} (h : Onto S w w1) (k : Onto T w1 w2) (hT : ∀ c ∈ T, c ∈ S ∨ w.heap.size ≤ c) : Onto S w w2 := by
  refine ⟨Nat.le_trans h.1 k.1, fun i hi hs => ?_, fun W g s => k.2.2 W (h.2.2 W g s) fun c hc => ?_⟩
  · rw [k.2.1 i (Nat.lt_of_lt_of_le hi h.1) fun hc => ?_]
    · exact h.2.1 i hi hs
    · rcases hT i hc with q | q
      · exact hs q
      · omega
  · rcases hT c hc with q | q
    · exact s c q
    · exact Nat.le_trans g.2.2 q
theorem Onto.mono {S T : List Nat} {w w' : World} (h : Onto S w w') (hs : ∀ c ∈ S, c ∈ T) : Onto T w w' :=
  ⟨h.1, fun i hi ht => h.2.1 i hi fun hc => ht (hs i hc), fun W g s => h.2.2 W g fun c hc => s c (hs c hc)⟩
theorem Onto.mut {S : List Nat} {w w' : World} (o : Onto S w w') {b : Nat} {st mu n : Int} {h t : Value} (m : MutAt b st mu h t n w) (hb : b ∉ S) : MutAt b st mu h t n w' := by
  unfold MutAt at *; rw [o.2.1 b (heap_lt m) hb]; exact m
theorem Onto.wait {S : List Nat} {w w' : World} (o : Onto S w w') {b : Nat} {sq : Int} {p nx l r : Value} (m : WaitAt b p nx sq l r w) (hb : b ∉ S) : WaitAt b p nx sq l r w' := by
  unfold WaitAt at *; rw [o.2.1 b (heap_lt m) hb]; exact m
end Go.Proofs.Ybulkaslm
