/-
  For LawS2196AEnqueue: take, push, pushFront, zzs2196acount.
-/
import Derived.Test.YbulkaslmMuWalks
import Derived.BigQuiet
import Derived.Deep.QuietTactic
namespace Go.Proofs.Ybulkaslm
open Go.ChangeShapes Go.WideShapes Go.ChangeAt Go.RowKit

theorem neq84_nil (w : World) : (binOp .neq 84 (.chan none) (.chan none)).run Yba.prog w = .ok (.bool false) w := by kernel_rfl
theorem neq84_some (c : Nat) (w : World) : (binOp .neq 84 (.chan (some c)) (.chan none)).run Yba.prog w = .ok (.bool true) w := by kernel_rfl
theorem neq50_nil (w : World) : (binOp .neq 50 (.chan none) (.chan none)).run Yba.prog w = .ok (.bool false) w := by kernel_rfl
theorem neq50_some (c : Nat) (w : World) : (binOp .neq 50 (.chan (some c)) (.chan none)).run Yba.prog w = .ok (.bool true) w := by kernel_rfl
theorem info23 : ∃ j, Yba.prog.info? 23 = some j ∧ j.bytes = 0 := by
  have h : (Yba.prog.info? 23).isSome = true := by kernel_rfl
  obtain ⟨j, hj⟩ := Option.isSome_iff_exists.1 h
  have hz : (Yba.prog.info? 23).map (fun i => i.bytes) = some 0 := by kernel_rfl
  rw [hj] at hz
  exact ⟨j, hj, by simpa using hz⟩
theorem make_chan (w : World) : (Instr.makeChan 50 (.int .i64 0)).run Yba.prog w = .ok (.chan (some w.heap.size)) (w.alloc (.chan 0 #[] false 0 0 false)) := by
  obtain ⟨j, hj, hb⟩ := info23
  exact Go.Conc.run_makeChan (w := w) Yba.underlying50 hj .i64 0 (by omega) (by rw [hb]; omega)

set_option maxRecDepth 100000 in
set_option maxHeartbeats 1000000 in
theorem take_nil {b : Nat} {st mu : Int} {h t : Value} {w : World} (n : Nat) (hn : n ≤ 100) (m : MutAt b st mu h t n w) (l : TypeId) (v : Value) :
    Calls Yba.prog 20 #[.pointer (some ⟨b, 3, none⟩), .iface l v, .chan none] w fun e w' => e = .returned (.pointer (some ⟨w.heap.size, 0, none⟩)) ∧
      MutAt b st mu h t (n + 1 : Nat) w' ∧ WaitAt w.heap.size (.pointer none) (.pointer none) (n + 1 : Nat) (.iface l v) (.chan none) w' ∧ Onto [b] w w' := by
  obtain ⟨c0, c1, c3, c4, c5, c7⟩ := m.cells
  have f := m.fz
  have hlt := heap_lt m
  have hq := neq84_nil
  go_enter Yba.func20, Yba.ntmps20
  go_wp2
  go_ret
  refine ⟨rfl, (m.set7 _).alloc _, ?_, ((Onto.refl _ _).setCell _ (.inl (by simp))).alloc _ _⟩
  have := (MapKept.heap_alloc (w.setCell ⟨b, 7, none⟩ (.int .u64 (n + 1 : Nat))) (waitObj (.pointer none) (.pointer none) (n + 1 : Nat) (.iface l v) (.chan none))).1
  simpa [WaitAt, waitObj] using this

set_option maxRecDepth 100000 in
set_option maxHeartbeats 1000000 in
theorem take_some {b : Nat} {st mu : Int} {h t : Value} {w : World} (n : Nat) (hn : n ≤ 100) (m : MutAt b st mu h t n w) (l : TypeId) (v : Value) (c : Nat) :
    Calls Yba.prog 20 #[.pointer (some ⟨b, 3, none⟩), .iface l v, .chan (some c)] w fun e w' => e = .returned (.pointer (some ⟨w.heap.size, 0, none⟩)) ∧
      MutAt b st mu h t (n + 1 : Nat) w' ∧ WaitAt w.heap.size (.pointer none) (.pointer none) (n + 1 : Nat) (.iface l v) (.chan (some (w.heap.size + 1))) w' ∧ Onto [b] w w' := by
  obtain ⟨c0, c1, c3, c4, c5, c7⟩ := m.cells
  have f := m.fz
  have hlt := heap_lt m
  have hq := neq84_some c
  have hm := make_chan
  go_enter Yba.func20, Yba.ntmps20
  go_wp2
  go_ret
  refine ⟨rfl, ((m.set7 _).alloc _).alloc _, ?_, (((Onto.refl _ _).setCell _ (.inl (by simp))).alloc _ _).allocChan _ _ _ _ _ _⟩
  have := (MapKept.heap_alloc (w.setCell ⟨b, 7, none⟩ (.int .u64 (n + 1 : Nat))) (waitObj (.pointer none) (.pointer none) (n + 1 : Nat) (.iface l v) (.chan (some (w.heap.size + 1))))).1
  refine WaitAt.alloc ?_ _
  simpa [WaitAt, waitObj] using this

/-- What a waiter's 'ready' holds behind take, by its argument 'done'. -/
def rdy (d : Option Nat) (k : Nat) : Value := match d with | none => .chan none | some _ => .chan (some k)

theorem take_any {b : Nat} {st mu : Int} {h t : Value} {w : World} (n : Nat) (hn : n ≤ 100) (m : MutAt b st mu h t n w) (l : TypeId) (v : Value) (d : Option Nat) :
    Calls Yba.prog 20 #[.pointer (some ⟨b, 3, none⟩), .iface l v, .chan d] w fun e w' => e = .returned (.pointer (some ⟨w.heap.size, 0, none⟩)) ∧
      MutAt b st mu h t (n + 1 : Nat) w' ∧ WaitAt w.heap.size (.pointer none) (.pointer none) (n + 1 : Nat) (.iface l v) (rdy d (w.heap.size + 1)) w' ∧ Onto [b] w w' := by
  cases d
  · exact take_nil n hn m l v
  · exact take_some n hn m l v _

set_option maxRecDepth 100000 in
set_option maxHeartbeats 1000000 in
/-- push onto an empty queue. -/
theorem push_first {b : Nat} {st mu : Int} {w : World} (n : Nat) (hn : n ≤ 100) (m : MutAt b st mu (.pointer none) (.pointer none) n w) (l : TypeId) (v : Value) (d : Option Nat) :
    Calls Yba.prog 6 #[.pointer (some ⟨b, 3, none⟩), .iface l v, .chan d] w fun e w' => e = .returned (.tuple #[.pointer (some ⟨w.heap.size, 0, none⟩), .int .u64 (n + 1 : Nat)]) ∧
      MutAt b st mu (.pointer (some ⟨w.heap.size, 0, none⟩)) (.pointer (some ⟨w.heap.size, 0, none⟩)) (n + 1 : Nat) w' ∧ WaitAt w.heap.size (.pointer none) (.pointer none) (n + 1 : Nat) (.iface l v) (rdy d (w.heap.size + 1)) w' ∧ Onto [b] w w' := by
  have hlt := heap_lt m
  go_enter Yba.func6, Yba.ntmps6
  go_wp2_with fail
  refine (take_any n hn m l v d).mono ?_
  rintro e w1 ⟨rfl, m1, t1, o1⟩
  obtain ⟨c0, c1, c3, c4, c5, c7⟩ := m1.cells
  have f := m1.fz
  obtain ⟨e0, e1, e2, e10⟩ := t1.cells
  have g := t1.fz
  have hne : ¬ w.heap.size = b := by omega
  have hne' : ¬ b = w.heap.size := by omega
  go_wp2_with fail
  go_region
  go_wp2
  go_ret2
  refine ⟨rfl, ?_, ?_, ?_⟩
  · exact ((m1.other (.pointer none) hne).set3 _).set4 _
  · exact ((t1.set0 _).other _ hne').other _ hne'
  · exact (((o1.setCell _ (.inr (Nat.le_refl _))).setCell _ (.inl (by simp))).setCell _ (.inl (by simp))).drew

set_option maxRecDepth 100000 in
set_option maxHeartbeats 1000000 in
/-- push onto a queue whose last waiter lies in block q. -/
theorem push_later {b q : Nat} {st mu sq : Int} {h p nx l0 r0 : Value} {w : World} (n : Nat) (hn : n ≤ 100) (hbq : ¬ b = q) (m : MutAt b st mu h (.pointer (some ⟨q, 0, none⟩)) n w)
    (k : WaitAt q p nx sq l0 r0 w) (l : TypeId) (v : Value) (d : Option Nat) :
    Calls Yba.prog 6 #[.pointer (some ⟨b, 3, none⟩), .iface l v, .chan d] w fun e w' => e = .returned (.tuple #[.pointer (some ⟨w.heap.size, 0, none⟩), .int .u64 (n + 1 : Nat)]) ∧
      MutAt b st mu h (.pointer (some ⟨w.heap.size, 0, none⟩)) (n + 1 : Nat) w' ∧ WaitAt w.heap.size (.pointer (some ⟨q, 0, none⟩)) (.pointer none) (n + 1 : Nat) (.iface l v) (rdy d (w.heap.size + 1)) w' ∧
      WaitAt q p (.pointer (some ⟨w.heap.size, 0, none⟩)) sq l0 r0 w' ∧ Onto [b, q] w w' := by
  have hlt := heap_lt m
  have hlq := heap_lt k
  go_enter Yba.func6, Yba.ntmps6
  go_wp2_with fail
  refine (take_any n hn m l v d).mono ?_
  rintro e w1 ⟨rfl, m1, t1, o1⟩
  have k1 := o1.wait k (by simp; omega)
  obtain ⟨c0, c1, c3, c4, c5, c7⟩ := m1.cells
  have f := m1.fz
  obtain ⟨e0, e1, e2, e10⟩ := t1.cells
  have g := t1.fz
  obtain ⟨x0, x1, x2, x10⟩ := k1.cells
  have y := k1.fz
  have hne : ¬ w.heap.size = b := by omega
  have hne' : ¬ b = w.heap.size := by omega
  have hnq : ¬ w.heap.size = q := by omega
  have hnq' : ¬ q = w.heap.size := by omega
  have hqb : ¬ q = b := by omega
  go_wp2_with fail
  go_region
  go_wp2
  go_ret2
  refine ⟨rfl, ?_, ?_, ?_, ?_⟩
  · exact ((m1.other _ hne).other _ hqb).set4 _
  · exact ((t1.set0 _).other _ hnq').other _ hne'
  · exact ((k1.other _ hnq).set1 _).other _ hbq
  · have o2 : Onto [b, q] w w1 := o1.mono (by simp)
    have o3 := o2.setCell (a := ⟨w.heap.size, 0, none⟩) (.pointer (some ⟨q, 0, none⟩)) (.inr (Nat.le_refl _))
    have o4 := o3.setCell (a := ⟨q, 1, none⟩) (.pointer (some ⟨w.heap.size, 0, none⟩)) (.inl (by simp))
    exact (o4.setCell (a := ⟨b, 4, none⟩) _ (.inl (by simp))).drew

set_option maxRecDepth 100000 in
set_option maxHeartbeats 1000000 in
/-- pushFront onto an empty queue. -/
theorem front_first {b : Nat} {st mu : Int} {w : World} (n : Nat) (hn : n ≤ 100) (m : MutAt b st mu (.pointer none) (.pointer none) n w) (l : TypeId) (v : Value) (d : Option Nat) :
    Calls Yba.prog 24 #[.pointer (some ⟨b, 3, none⟩), .iface l v, .chan d] w fun e w' => e = .returned (.tuple #[.pointer (some ⟨w.heap.size, 0, none⟩), .int .u64 (n + 1 : Nat)]) ∧
      MutAt b st mu (.pointer (some ⟨w.heap.size, 0, none⟩)) (.pointer (some ⟨w.heap.size, 0, none⟩)) (n + 1 : Nat) w' ∧ WaitAt w.heap.size (.pointer none) (.pointer none) (n + 1 : Nat) (.iface l v) (rdy d (w.heap.size + 1)) w' ∧ Onto [b] w w' := by
  have hlt := heap_lt m
  go_enter Yba.func24, Yba.ntmps24
  go_wp2_with fail
  refine (take_any n hn m l v d).mono ?_
  rintro e w1 ⟨rfl, m1, t1, o1⟩
  obtain ⟨c0, c1, c3, c4, c5, c7⟩ := m1.cells
  have f := m1.fz
  obtain ⟨e0, e1, e2, e10⟩ := t1.cells
  have g := t1.fz
  have hne : ¬ w.heap.size = b := by omega
  have hne' : ¬ b = w.heap.size := by omega
  go_wp2_with fail
  go_region
  go_wp2
  go_ret2
  refine ⟨rfl, ?_, ?_, ?_⟩
  · exact ((m1.other (.pointer none) hne).set4 _).set3 _
  · exact ((t1.set1 _).other _ hne').other _ hne'
  · exact (((o1.setCell _ (.inr (Nat.le_refl _))).setCell _ (.inl (by simp))).setCell _ (.inl (by simp))).drew

set_option maxRecDepth 100000 in
set_option maxHeartbeats 1000000 in
/-- pushFront onto a queue whose first waiter lies in block q. -/
theorem front_later {b q : Nat} {st mu sq : Int} {t p nx l0 r0 : Value} {w : World} (n : Nat) (hn : n ≤ 100) (hbq : ¬ b = q) (m : MutAt b st mu (.pointer (some ⟨q, 0, none⟩)) t n w)
    (k : WaitAt q p nx sq l0 r0 w) (l : TypeId) (v : Value) (d : Option Nat) :
    Calls Yba.prog 24 #[.pointer (some ⟨b, 3, none⟩), .iface l v, .chan d] w fun e w' => e = .returned (.tuple #[.pointer (some ⟨w.heap.size, 0, none⟩), .int .u64 (n + 1 : Nat)]) ∧
      MutAt b st mu (.pointer (some ⟨w.heap.size, 0, none⟩)) t (n + 1 : Nat) w' ∧ WaitAt w.heap.size (.pointer none) (.pointer (some ⟨q, 0, none⟩)) (n + 1 : Nat) (.iface l v) (rdy d (w.heap.size + 1)) w' ∧
      WaitAt q (.pointer (some ⟨w.heap.size, 0, none⟩)) nx sq l0 r0 w' ∧ Onto [b, q] w w' := by
  have hlt := heap_lt m
  have hlq := heap_lt k
  go_enter Yba.func24, Yba.ntmps24
  go_wp2_with fail
  refine (take_any n hn m l v d).mono ?_
  rintro e w1 ⟨rfl, m1, t1, o1⟩
  have k1 := o1.wait k (by simp; omega)
  obtain ⟨c0, c1, c3, c4, c5, c7⟩ := m1.cells
  have f := m1.fz
  obtain ⟨e0, e1, e2, e10⟩ := t1.cells
  have g := t1.fz
  obtain ⟨x0, x1, x2, x10⟩ := k1.cells
  have y := k1.fz
  have hne : ¬ w.heap.size = b := by omega
  have hne' : ¬ b = w.heap.size := by omega
  have hnq : ¬ w.heap.size = q := by omega
  have hnq' : ¬ q = w.heap.size := by omega
  have hqb : ¬ q = b := by omega
  go_wp2_with fail
  go_region
  go_wp2
  go_ret2
  refine ⟨rfl, ?_, ?_, ?_, ?_⟩
  · exact ((m1.other _ hne).other _ hqb).set3 _
  · exact ((t1.set1 _).other _ hnq').other _ hne'
  · exact ((k1.other _ hnq).set0 _).other _ hbq
  · have o2 : Onto [b, q] w w1 := o1.mono (by simp)
    have o3 := o2.setCell (a := ⟨w.heap.size, 1, none⟩) (.pointer (some ⟨q, 0, none⟩)) (.inr (Nat.le_refl _))
    have o4 := o3.setCell (a := ⟨q, 0, none⟩) (.pointer (some ⟨w.heap.size, 0, none⟩)) (.inl (by simp))
    exact (o4.setCell (a := ⟨b, 3, none⟩) _ (.inl (by simp))).drew

/-- From the pointer p on, through 'next', lie just the waiters in the blocks l. -/
def Chain (w : World) : Value → List Nat → Prop
  | p, [] => p = .pointer none
  | p, c :: l => p = .pointer (some ⟨c, 0, none⟩) ∧ ∃ (pv nx l0 r0 : Value) (sq : Int), WaitAt c pv nx sq l0 r0 w ∧ Chain w nx l

set_option maxHeartbeats 400000 in
theorem count_any {b : Nat} {st mu n : Int} {h t : Value} {w : World} (m : MutAt b st mu h t n w) (l : List Nat) (hl : l.length ≤ 90) (hc : Chain w h l) :
    Calls Yba.prog 12 #[.pointer (some ⟨b, 3, none⟩)] w fun e w' => e = .returned (.int .i64 l.length) ∧ w' = w := by
  obtain ⟨c0, c1, c3, c4, c5, c7⟩ := m.cells
  go_enter Yba.func12, Yba.ntmps12
  go_wp2
  go_loop [3, 4] (fun c p => ∃ (i : Nat) (l' : List Nat), c = .int .i64 i ∧ i + l'.length = l.length ∧ Chain w p l') (fun c _ => l.length - (intOf c).toNat)
  case atStart => exact ⟨0, l, rfl, by omega, hc⟩
  case round =>
    obtain ⟨i, l', rfl, hi, hch⟩ := hrel
    cases l' with
    | nil =>
      simp only [Chain] at hch
      subst hch
      simp only [List.length_nil, Nat.add_zero] at hi
      subst hi
      go_wp2
      go_ret
      exact ⟨rfl, rfl⟩
    | cons c l' =>
      obtain ⟨rfl, pv, nx, l0, r0, sq, hw, hch⟩ := hch
      simp only [List.length_cons] at hi
      obtain ⟨x0, x1, x2, x10⟩ := hw.cells
      have hlt : (i : Int) < 100 := by omega
      clear hc
      go_wp2
      go_round
      case rel => exact ⟨i + 1, l', by go_num, by omega, hch⟩
      case measure => simp [intOf]; omega

theorem chain_keep {w w' : World} : ∀ (L : List Nat) (p : Value), Chain w p L → (∀ c ∈ L, ∀ pv nx l0 r0 sq, WaitAt c pv nx sq l0 r0 w → ∃ pv' l1 r1 sq', WaitAt c pv' nx sq' l1 r1 w') → Chain w' p L
  | [], _, h, _ => h
  | c :: L, _, ⟨hp, pv, nx, l0, r0, sq, hw, hc⟩, hk => by
    obtain ⟨pv', l1, r1, sq', hw'⟩ := hk c (by simp) pv nx l0 r0 sq hw
    exact ⟨hp, pv', nx, l1, r1, sq', hw', chain_keep L nx hc fun d hd => hk d (by simp [hd])⟩

theorem chain_snoc {w w' : World} {q nb : Nat} {pv l0 r0 : Value} {sq : Int} (hq : WaitAt q pv (.pointer (some ⟨nb, 0, none⟩)) sq l0 r0 w') {pv1 l1 r1 : Value} {sq1 : Int} (hn : WaitAt nb pv1 (.pointer none) sq1 l1 r1 w') :
    ∀ (L : List Nat) (p : Value), Chain w p L → L.getLast? = some q → L.Nodup → (∀ c ∈ L, c ≠ q → ∀ pv nx l0 r0 sq, WaitAt c pv nx sq l0 r0 w → WaitAt c pv nx sq l0 r0 w') → Chain w' p (L ++ [nb])
  | [], _, _, hl, _, _ => by simp at hl
  | [c], _, ⟨hp, _⟩, hl, _, _ => by
    simp at hl; subst hl
    exact ⟨hp, _, _, _, _, _, hq, rfl, _, _, _, _, _, hn, rfl⟩
  | c :: d :: L, _, ⟨hp, pv, nx, l0, r0, sq, hw, hc⟩, hl, hnd, hk => by
    have hl' : (d :: L).getLast? = some q := by simpa [List.getLast?_cons_cons] using hl
    have hmem : q ∈ d :: L := List.mem_of_getLast? hl'
    have hcq : c ≠ q := by rintro rfl; exact (List.nodup_cons.1 hnd).1 hmem
    exact ⟨hp, pv, nx, l0, r0, sq, hk c (by simp) hcq _ _ _ _ _ hw, chain_snoc hq hn (d :: L) nx hc hl' (List.nodup_cons.1 hnd).2 fun e he => hk e (by simp at he ⊢; exact .inr he)⟩

/-- The Mutex in block b, its queue the waiters in the blocks L, front first. -/
def Queue (w : World) (b : Nat) (L : List Nat) (st mu : Int) (n : Nat) : Prop :=
  ∃ h t, MutAt b st mu h t n w ∧ Chain w h L ∧ (L = [] → t = .pointer none) ∧ (∀ q, L.getLast? = some q → t = .pointer (some ⟨q, 0, none⟩)) ∧ L.Nodup ∧ b ∉ L

theorem chain_lt {w : World} : ∀ (L : List Nat) (p : Value), Chain w p L → ∀ c ∈ L, c < w.heap.size
  | [], _, _, c, hc => by simp at hc
  | d :: L, _, ⟨_, pv, nx, l0, r0, sq, hw, hch⟩, c, hc => by
    rcases List.mem_cons.1 hc with rfl | hc
    · exact heap_lt hw
    · exact chain_lt L nx hch c hc

theorem chain_at {w : World} : ∀ (L : List Nat) (p : Value), Chain w p L → ∀ c ∈ L, ∃ (pv nx l0 r0 : Value) (sq : Int), WaitAt c pv nx sq l0 r0 w
  | [], _, _, c, hc => by simp at hc
  | d :: L, _, ⟨_, pv, nx, l0, r0, sq, hw, hch⟩, c, hc => by
    rcases List.mem_cons.1 hc with rfl | hc
    · exact ⟨pv, nx, l0, r0, sq, hw⟩
    · exact chain_at L nx hch c hc

theorem push_queue {w : World} {b : Nat} {L : List Nat} {st mu : Int} (n : Nat) (hn : n ≤ 100) (Q : Queue w b L st mu n) (l : TypeId) (v : Value) (d : Option Nat) :
    Calls Yba.prog 6 #[.pointer (some ⟨b, 3, none⟩), .iface l v, .chan d] w fun e w' => e = .returned (.tuple #[.pointer (some ⟨w.heap.size, 0, none⟩), .int .u64 (n + 1 : Nat)]) ∧
      Queue w' b (L ++ [w.heap.size]) st mu (n + 1) ∧ (∃ pv nx, WaitAt w.heap.size pv nx (n + 1 : Nat) (.iface l v) (rdy d (w.heap.size + 1)) w') ∧ Onto (b :: L) w w' := by
  obtain ⟨h, t, m, hc, ht0, ht, hnd, hb⟩ := Q
  have hlt := heap_lt m
  have hcl := chain_lt L h hc
  have hnew : w.heap.size ∉ L := fun hm => Nat.lt_irrefl _ (hcl _ hm)
  have hnd' : (L ++ [w.heap.size]).Nodup := by
    refine List.nodup_append.2 ⟨hnd, by simp, ?_⟩
    intro a ha c hc'
    simp at hc'; subst hc'
    rintro rfl; exact hnew ha
  have hb' : b ∉ L ++ [w.heap.size] := by simp [hb]; omega
  cases hL : L with
  | nil =>
    subst hL
    obtain rfl := ht0 rfl
    simp only [Chain] at hc
    subst hc
    refine (push_first n hn m l v d).mono ?_
    rintro e w' ⟨rfl, m', k', o⟩
    exact ⟨rfl, ⟨_, _, m', ⟨rfl, _, _, _, _, _, k', rfl⟩, by simp, by simp, hnd', hb'⟩, ⟨_, _, k'⟩, o⟩
  | cons c L' =>
    rw [← hL]
    obtain ⟨q, hq⟩ : ∃ q, L.getLast? = some q := by
      cases hg : L.getLast? with
      | none => rw [List.getLast?_eq_none_iff] at hg; rw [hg] at hL; cases hL
      | some q => exact ⟨q, rfl⟩
    have hqm : q ∈ L := List.mem_of_getLast? hq
    obtain rfl := ht q hq
    obtain ⟨pv, nx, l0, r0, sq, kq⟩ := chain_at L h hc q hqm
    have hbq : ¬ b = q := by rintro rfl; exact hb hqm
    refine (push_later n hn hbq m kq l v d).mono ?_
    rintro e w' ⟨rfl, m', k', q', o⟩
    refine ⟨rfl, ⟨_, _, m', ?_, by simp, by simp, hnd', hb'⟩, ⟨_, _, k'⟩, o.mono ?_⟩
    · refine chain_snoc q' k' L h hc hq hnd fun e he hne pv nx l0 r0 sq hw => ?_
      refine o.wait hw ?_
      simp only [List.mem_cons, List.not_mem_nil, or_false, not_or]
      exact ⟨by rintro rfl; exact hb he, hne⟩
    · intro e he
      simp only [List.mem_cons, List.not_mem_nil, or_false] at he
      rcases he with rfl | rfl
      · simp
      · simp [hqm]

theorem front_queue {w : World} {b : Nat} {L : List Nat} {st mu : Int} (n : Nat) (hn : n ≤ 100) (Q : Queue w b L st mu n) (l : TypeId) (v : Value) (d : Option Nat) :
    Calls Yba.prog 24 #[.pointer (some ⟨b, 3, none⟩), .iface l v, .chan d] w fun e w' => e = .returned (.tuple #[.pointer (some ⟨w.heap.size, 0, none⟩), .int .u64 (n + 1 : Nat)]) ∧
      Queue w' b (w.heap.size :: L) st mu (n + 1) ∧ (∃ pv nx, WaitAt w.heap.size pv nx (n + 1 : Nat) (.iface l v) (rdy d (w.heap.size + 1)) w') ∧ Onto (b :: L) w w' := by
  obtain ⟨h, t, m, hc, ht0, ht, hnd, hb⟩ := Q
  have hlt := heap_lt m
  have hcl := chain_lt L h hc
  have hnew : w.heap.size ∉ L := fun hm => Nat.lt_irrefl _ (hcl _ hm)
  have hnd' : (w.heap.size :: L).Nodup := List.nodup_cons.2 ⟨hnew, hnd⟩
  have hb' : b ∉ w.heap.size :: L := by simp [hb]; omega
  cases L with
  | nil =>
    obtain rfl := ht0 rfl
    simp only [Chain] at hc
    subst hc
    refine (front_first n hn m l v d).mono ?_
    rintro e w' ⟨rfl, m', k', o⟩
    exact ⟨rfl, ⟨_, _, m', ⟨rfl, _, _, _, _, _, k', rfl⟩, by simp, by simp, hnd', hb'⟩, ⟨_, _, k'⟩, o⟩
  | cons q L' =>
    obtain ⟨rfl, pv, nx, l0, r0, sq, kq, hc'⟩ := hc
    have hbq : ¬ b = q := by rintro rfl; exact hb (by simp)
    refine (front_later n hn hbq m kq l v d).mono ?_
    rintro e w' ⟨rfl, m', k', q', o⟩
    refine ⟨rfl, ⟨_, _, m', ⟨rfl, _, _, _, _, _, k', rfl, _, _, _, _, _, q', ?_⟩, by simp, ?_, hnd', hb'⟩, ⟨_, _, k'⟩, o.mono ?_⟩
    · refine chain_keep L' nx hc' fun e he pv nx l0 r0 sq hw => ⟨_, _, _, _, o.wait hw ?_⟩
      simp only [List.mem_cons, List.not_mem_nil, or_false, not_or]
      exact ⟨by rintro rfl; exact hb (by simp [he]), by rintro rfl; exact (List.nodup_cons.1 hnd).1 he⟩
    · intro x hx
      rw [List.getLast?_cons_cons] at hx
      exact ht x hx
    · intro e he
      simp only [List.mem_cons, List.not_mem_nil, or_false] at he
      rcases he with rfl | rfl <;> simp
end Go.Proofs.Ybulkaslm
