/-
  DERIVED. GIVEN WITH THE SEED: THE CARDS: each row of YbulkasmaDoorRows.lean that lists a variable, with what it lists TIED to the program's text (the seventh form; the later family's looks); each row that meets fmt, with fmt's text TOLD by the authors' own Lean function (tested against real Go, not proved from fmt's source: count such statements apart). THE CARD IS WHAT COUNTS. Prove the row's statement (the work); the ties are given (YbulkasmaDoorTie.lean); close each card by the builder's one call (the guide's Derived/Test/ToyasCard.lean, 'card_holds'). Laid BY PROGRAM, IN A SANDBOX (cutbox-door.mjs). By AI agents, Wed Nov 11 2026. No macro, syntax, notation, axiom, sorry.
-/
import Derived.Test.YbulkasmaDoorRows
import GoSem.ClaimSeven
namespace Go.Proofs.YbulkasmaDoor
namespace Rows

/-- THE TIED CARD OF 'earthlag.LawS2197AModel'. -/
def lawS2197AModelCard : Claim7 := { stood := { row := lawS2197AModelRow, standIns := [], harness := (true, "b0cb61efe31e1796b89bcf8b219b4a3351a418fead3b57c21a0cb18db5db566d"), looks := false }, kinds := [], alts := [], laidByText := true, laidKinds := [.data], laidTests := true, laidLooks := .later }
def LawS2197AModelCardSaid : Prop := Claim7.holds Ybad.pinned (.plain (OpenSpec.ofChange lawS2197AModelSpec)) lawS2197AModelCard

/-- THE TIED CARD OF 'earthlag.LawS2197AHalfYear'. -/
def lawS2197AHalfYearCard : Claim7 := { stood := { row := lawS2197AHalfYearRow, standIns := [], harness := (true, "b0cb61efe31e1796b89bcf8b219b4a3351a418fead3b57c21a0cb18db5db566d"), looks := false }, kinds := [], alts := [], laidByText := true, laidKinds := [.data], laidTests := true, laidLooks := .later }
def LawS2197AHalfYearCardSaid : Prop := Claim7.holds Ybad.pinned (.plain (OpenSpec.ofChange lawS2197AHalfYearSpec)) lawS2197AHalfYearCard
end Rows
end Go.Proofs.YbulkasmaDoor
