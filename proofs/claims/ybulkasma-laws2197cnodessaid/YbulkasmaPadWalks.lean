/-
  zzs2197cpad: the padded slice: at least four cells, every one a number.
-/
import Derived.Test.YbulkasmaMathWalks
namespace Go.Proofs.Ybulkasma
open Go.ChangeShapes Go.WideShapes Go.ChangeAt Go.RowKit
open Fl
theorem run_store_float (P : Program) (w : World) (a : Addr) (k : FloatKind) (b : Nat) (m : Mode) : (store a (.float k b) m).run P w = stored P w a (.float k b) m := run_store P w a _ m rfl
attribute [local go_sem] run_store_float
/-- What the walk is told of the slice of floats that came in. -/
def IsRow (w : World) (a : Option Addr) (len cap : Nat) (fs : Nat → Nat) : Prop :=
  (a = none ∧ len = 0 ∧ cap = 0) ∨
  ∃ x, a = some x ∧ len ≤ cap ∧ cap ≤ maxLen ∧ ∀ i, i < len → w.cell? (x.add i) = some (.float .f64 (fs i)) ∧ fs i < 18446744073709551616
def floats (ys : List Nat) : Obj := .cells (ys.map (Value.float .f64)).toArray 22 (0, 0)

theorem info22 : ∃ j, Yba.prog.info? 22 = some j ∧ j.zero = some (.float .f64 0) ∧ j.size = 1 ∧ j.bytes = 8 := by
  have h : (Yba.prog.info? 22).isSome = true := by kernel_rfl
  obtain ⟨j, hj⟩ := Option.isSome_iff_exists.1 h
  have h1 : (Yba.prog.info? 22).bind (fun i => i.zero) = some (.float .f64 0) := by kernel_rfl
  have h2 : (Yba.prog.info? 22).map (fun i => i.size) = some 1 := by kernel_rfl
  have h3 : (Yba.prog.info? 22).map (fun i => i.bytes) = some 8 := by kernel_rfl
  rw [hj] at h1 h2 h3
  exact ⟨j, hj, by simpa using h1, by simpa using h2, by simpa using h3⟩
theorem make_floats (n : Nat) (hn : n ≤ 2000) (w : World) : (Instr.makeSlice 28 (.int .i64 n) (.int .i64 n)).run Yba.prog w = .ok (.slice (some ⟨w.heap.size, 0, none⟩) n n) (w.alloc (floats (List.replicate n 0))) := by
  obtain ⟨j, hj, hz, hs, hb⟩ := info22
  rw [run_make (P := Yba.prog) w 28 22 j (.float .f64 0) Yba.underlying28 hj hz .i64 .i64 n n (by omega) (by omega) (by rw [hb]; omega) (by omega)]
  rw [hs, Int.toNat_natCast, Nat.mul_one]
  congr 2
  unfold floats madeCells
  congr 1
  apply Array.ext
  · simp
  · intro i h1 h2
    simp [Value.cells, Nat.mod_one]

theorem floats_cell {w : World} {b : Nat} {ys : List Nat} (h : w.heap[b]? = some (floats ys)) (i : Nat) (hi : i < ys.length) : w.cell? ⟨b, i, none⟩ = some (.float .f64 ys[i]) := by
  unfold floats at h
  simp [World.cell?, h, hi]
theorem floats_fz {w : World} {b : Nat} {ys : List Nat} (h : w.heap[b]? = some (floats ys)) (i : Nat) : w.frozen? ⟨b, i, none⟩ = false := by
  unfold floats at h
  simp [World.frozen?, h]
theorem floats_set {w : World} {b : Nat} {ys : List Nat} (h : w.heap[b]? = some (floats ys)) (i : Nat) (y : Nat) : (w.setCell ⟨b, i, none⟩ (.float .f64 y)).heap[b]? = some (floats (ys.set i y)) := by
  unfold floats at *
  simp [World.setCell, Array.getElem?_modify, h, List.map_set]

theorem block_lt {w : World} {a : Addr} {v : Value} (h : w.cell? a = some v) : a.block < w.heap.size := by
  obtain ⟨e, n, hsh, _⟩ := World.shape?_of_cell? h
  rcases Nat.lt_or_ge a.block w.heap.size with h' | h'
  · exact h'
  · simp [World.shape?, Array.getElem?_eq_none h'] at hsh

/-- What the padded slice is, behind j rounds. -/
def Padded (w : World) (N : Nat) (wr : World) : Prop := ∃ ys : List Nat, ys.length = N ∧ (∀ y ∈ ys, Fin y) ∧ wr.heap[w.heap.size]? = some (floats ys) ∧ Below w.heap.size w wr

set_option maxRecDepth 100000 in
set_option maxHeartbeats 400000 in
theorem pad_long (a0 : Option Addr) (len cap : Nat) (fs : Nat → Nat) (w : World) (h : IsRow w a0 len cap fs) (hl : len ≤ 1024) (h4 : 4 ≤ len) :
    Calls Yba.prog 10 #[.slice a0 len cap] w fun e w' => e = .returned (.slice (some ⟨w.heap.size, 0, none⟩) len len) ∧ Padded w len w' := by
  have hm := make_floats len (by omega)
  have hd : decide ((len : Int) < 4) = false := by simp; omega
  have hs : Padded w len (w.alloc (floats (List.replicate len 0))) := by
    refine ⟨List.replicate len 0, by simp, ?_, (MapKept.heap_alloc w _).1, (Below.refl _ _).alloc (Nat.le_refl _) _⟩
    intro y hy
    rw [List.eq_of_mem_replicate hy]; exact fin_zero
  go_enter Yba.func10, Yba.ntmps10
  go_wp2_with fail
  go_loopw [5] (fun j wr => ∃ i : Nat, i ≤ len ∧ j = .int .i64 i ∧ Padded w len wr) (fun j _ => len - (intOf j).toNat)
  case atStart => exact ⟨0, by omega, rfl, hs⟩
  case round =>
    obtain ⟨i, hi, rfl, hP⟩ := hrel
    clear hs hm
    by_cases hlt : (i : Int) < len
    · rcases h with ⟨rfl, rfl, rfl⟩ | ⟨x, rfl, hlc, hcm, hx⟩
      · omega
      obtain ⟨hcx, hfx⟩ := hx i (by omega)
      obtain ⟨ys, hys, hfin, hheap, hb⟩ := hP
      unfold maxLen at hcm
      have hxb := block_lt hcx
      have hc1 : wr.cell? (x.add i) = some (.float .f64 (fs i)) := by rw [hb.cell (p := x.add i) hxb]; exact hcx
      have hc2 : wr.cell? ⟨w.heap.size, i, none⟩ = some (.float .f64 ys[i]) := floats_cell hheap i (by omega)
      have hf2 := floats_fz hheap i
      have hend : ∀ y, Fin y → Padded w len (wr.setCell ⟨w.heap.size, i, none⟩ (.float .f64 y)) := fun y hy =>
        ⟨ys.set i y, by simp [hys], fun z hz => (List.mem_or_eq_of_mem_set hz).elim (hfin z) (fun e => e ▸ hy), floats_set hheap i y, hb.setCell (Nat.le_refl _) _⟩
      have hpad := padW_fin (fs i) hfx
      have hfin0 := hend 0 fin_zero
      clear hx hcx hfx hheap hfin
      go_wp2_with (first
        | (go_at_call 12; refine (isNaN_any _ _).mono ?_; rintro e w' ⟨rfl, rfl⟩)
        | (go_at_call 17; refine (isInf_any _ _).mono ?_; rintro e w' ⟨rfl, rfl⟩))
      all_goals
        go_roundw
        case rel => exact ⟨i + 1, by omega, by go_num, by first | exact hfin0 | exact hend _ (by simpa [padW, *] using hpad)⟩
        case measure => simp [intOf]; omega
    · go_wp2_with fail
      go_ret
      exact ⟨rfl, hP⟩

set_option maxRecDepth 100000 in
set_option maxHeartbeats 400000 in
theorem pad_short (a0 : Option Addr) (len cap : Nat) (fs : Nat → Nat) (w : World) (h : IsRow w a0 len cap fs) (hl : len ≤ 1024) (h4 : len < 4) :
    Calls Yba.prog 10 #[.slice a0 len cap] w fun e w' => e = .returned (.slice (some ⟨w.heap.size, 0, none⟩) 4 4) ∧ Padded w 4 w' := by
  have hm : ∀ w, (Instr.makeSlice 28 (.int .i64 4) (.int .i64 4)).run Yba.prog w = .ok (.slice (some ⟨w.heap.size, 0, none⟩) 4 4) (w.alloc (floats (List.replicate 4 0))) := make_floats 4 (by omega)
  have hd : decide ((len : Int) < 4) = true := by simp; omega
  have hs : Padded w 4 (w.alloc (floats (List.replicate 4 0))) := by
    refine ⟨List.replicate 4 0, by simp, ?_, (MapKept.heap_alloc w _).1, (Below.refl _ _).alloc (Nat.le_refl _) _⟩
    intro y hy
    rw [List.eq_of_mem_replicate hy]; exact fin_zero
  go_enter Yba.func10, Yba.ntmps10
  go_wp2_with fail
  go_loopw [5] (fun j wr => ∃ i : Nat, i ≤ len ∧ j = .int .i64 i ∧ Padded w 4 wr) (fun j _ => len - (intOf j).toNat)
  case atStart => exact ⟨0, by omega, rfl, hs⟩
  case round =>
    obtain ⟨i, hi, rfl, hP⟩ := hrel
    clear hs hm
    by_cases hlt : (i : Int) < len
    · rcases h with ⟨rfl, rfl, rfl⟩ | ⟨x, rfl, hlc, hcm, hx⟩
      · omega
      obtain ⟨hcx, hfx⟩ := hx i (by omega)
      obtain ⟨ys, hys, hfin, hheap, hb⟩ := hP
      unfold maxLen at hcm
      have hxb := block_lt hcx
      have hc1 : wr.cell? (x.add i) = some (.float .f64 (fs i)) := by rw [hb.cell (p := x.add i) hxb]; exact hcx
      have hc2 : wr.cell? ⟨w.heap.size, i, none⟩ = some (.float .f64 ys[i]) := floats_cell hheap i (by omega)
      have hf2 := floats_fz hheap i
      have hend : ∀ y, Fin y → Padded w 4 (wr.setCell ⟨w.heap.size, i, none⟩ (.float .f64 y)) := fun y hy =>
        ⟨ys.set i y, by simp [hys], fun z hz => (List.mem_or_eq_of_mem_set hz).elim (hfin z) (fun e => e ▸ hy), floats_set hheap i y, hb.setCell (Nat.le_refl _) _⟩
      have hpad := padW_fin (fs i) hfx
      have hfin0 := hend 0 fin_zero
      clear hx hcx hfx hheap hfin
      go_wp2_with (first
        | (go_at_call 12; refine (isNaN_any _ _).mono ?_; rintro e w' ⟨rfl, rfl⟩)
        | (go_at_call 17; refine (isInf_any _ _).mono ?_; rintro e w' ⟨rfl, rfl⟩))
      all_goals
        go_roundw
        case rel => exact ⟨i + 1, by omega, by go_num, by first | exact hfin0 | exact hend _ (by simpa [padW, *] using hpad)⟩
        case measure => simp [intOf]; omega
    · go_wp2_with fail
      go_ret
      exact ⟨rfl, hP⟩


theorem pad_any (a0 : Option Addr) (len cap : Nat) (fs : Nat → Nat) (w : World) (h : IsRow w a0 len cap fs) (hl : len ≤ 1024) :
    Calls Yba.prog 10 #[.slice a0 len cap] w fun e w' => ∃ N, 4 ≤ N ∧ N ≤ 1024 ∧ e = .returned (.slice (some ⟨w.heap.size, 0, none⟩) N N) ∧ Padded w N w' := by
  by_cases h4 : 4 ≤ len
  · refine (pad_long a0 len cap fs w h hl h4).mono ?_
    rintro e w' ⟨rfl, hP⟩
    exact ⟨len, h4, hl, rfl, hP⟩
  · refine (pad_short a0 len cap fs w h hl (by omega)).mono ?_
    rintro e w' ⟨rfl, hP⟩
    exact ⟨4, by omega, by omega, rfl, hP⟩
end Go.Proofs.Ybulkasma
