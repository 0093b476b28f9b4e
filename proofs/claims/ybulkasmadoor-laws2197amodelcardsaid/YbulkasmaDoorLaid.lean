/-
  What the listed variable (monthDays) gives the walks: its twelve cells.
-/
import Derived.Test.YbulkasmaDoorDateWalks
import Derived.LaidMore
import Derived.Stop.Joined
import Derived.OpenVars
import Derived.Carry
namespace Go.Proofs.YbulkasmaDoor
open Go.ChangeShapes Go.WideShapes Go.ChangeAt Go.RowKit

theorem own : ownKnob Ybad.prog.godebug = none := by kernel_rfl
theorem laidOut : laidOutB Ybad.prog = true := by kernel_rfl
/-- The variable's name, as the rows spell it. -/
def vn : String := Rows.lawS2197AModelRow.named.headD ""
theorem gMonth : Ybad.prog.globalNamed vn = some 0 := by kernel_rfl
theorem tMonth : (Ybad.prog.globals[0]?).map (·.type) = some 26 := by kernel_rfl
def laidL : List (String × DataW Unit) := [(vn, Rows.laid_example_com_earthlag_earthlag_monthDays)]

/-- The door's own heap meets the condition: closed facts. -/
theorem door_met (os : Os) (args : Array Value) : laidMetH Ybad.prog laidL ((World.doorLaid Ybad.prog 400 os).forCall (fun _ _ => 0) ⟨#[], args, []⟩).memory :=
  laidMetH_of_parts3 (fuel := 8) (laidMet_of_run' 8 (by kernel_rfl) (by kernel_rfl)) (by kernel_rfl) (by kernel_rfl)

/-- WHAT THE CONDITION GIVES THE WALKS. -/
theorem of_laid {W : World} (h : laidMetH Ybad.prog laidL W) : Tab W := by
  rw [MakeChecks.laidMetH_plain _ _ _ (by kernel_rfl)] at h
  obtain ⟨ps, ⟨g0, t0, cs0, f0, p0, q0, hg0, ht0, hv0, hd0, _⟩, _, _⟩ := h
  obtain rfl := Option.some.inj (gMonth.symm.trans hg0)
  obtain rfl := Option.some.inj (tMonth.symm.trans ht0)
  obtain ⟨xs, m1, rfl, hx1, hlen, hn12, hel⟩ := DataW.trod_array Ybad.underlying26 hd0
  have c3 : Ybad.prog.cellsOf 3 = 1 := by kernel_rfl
  simp only [Prod.mk.injEq] at hx1
  intro j hj
  have hj' := hel j (by omega)
  rw [c3, Nat.mul_one, List.getElem?_eq_getElem (show j < xs.length by omega)] at hj'
  obtain ⟨k, e1, e2, _⟩ := DataW.trod_int Ybad.underlying3 hj'
  have hL : (xs.map fun x => x.1)[j]? = some (.lit (.int .i64 k)) := by
    rw [List.getElem?_map, List.getElem?_eq_getElem (show j < xs.length by omega), e2]; rfl
  unfold Rows.laid_example_com_earthlag_earthlag_monthDays at hx1
  have hL2 := DataW.agg.inj hx1.1
  rw [← hL2] at hL
  have hk : k = mdays j := by
    have hc : j = 0 ∨ j = 1 ∨ j = 2 ∨ j = 3 ∨ j = 4 ∨ j = 5 ∨ j = 6 ∨ j = 7 ∨ j = 8 ∨ j = 9 ∨ j = 10 ∨ j = 11 := by omega
    rcases hc with rfl | rfl | rfl | rfl | rfl | rfl | rfl | rfl | rfl | rfl | rfl | rfl <;> simp at hL <;> rw [← hL] <;> rfl
  have hcell := World.var?_cell hg0 hv0 j
  rw [hcell, ← hk, ← Array.getElem?_toList]
  have := congrArg List.head? e1
  simpa [List.head?_take, List.head?_drop] using this
end Go.Proofs.YbulkasmaDoor
