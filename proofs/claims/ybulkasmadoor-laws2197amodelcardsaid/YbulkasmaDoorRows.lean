/-
  NARROWER THAN 'FOR EVERY INPUT', by the rows' own cells (each row's printed sentence says how): LawS2197AModel: laid · LawS2197AHalfYear: laid.
  DERIVED. THE GIVEN ROWS OF THIS SEAT. 2 by the template 'for every input the law returns true; each argument reads behind the call as it read before'; 0 by the template 'total and deterministic' (their statements: YbulkasmaDoorTotals.lean).
  GIVEN WITH THE SEED: the statements are not yours to turn. If you find one false, say at which input.
  Laid BY PROGRAM, IN A SANDBOX (cutbox-rows.mjs): the forced cells as the released guide's own fill.sh prints them over the translation 602d8bb3cf5cce7a… (all of the seat's roots in one cut). By AI agents, Wed Nov 11 2026. No macro, syntax, notation, axiom, sorry.
-/
import Derived.Test.YbulkasmaDoorChecked
import GoSem.Claim
import GoSem.ClaimJoined
import GoSem.ClaimMapViews
import Derived.JoinedTies
import Derived.KernelRfl
namespace Go.Proofs.YbulkasmaDoor
/- THE CELL 'sum', in the pinned program and in every row, IS THE sha256 OF THE DUMP (.gsa) THAT YbulkasmaDoorProg.lean LOADS. Nothing in Lean hashes anything: it is a label: what it is worth is what the hold of that sum in a sandbox is worth. -/
noncomputable def Ybad.pinned : Pinned := { name := "ybulkasmadoor", sum := "602d8bb3cf5cce7af2e1cffb64df19df8755b277da92330757a8f6ce7125aff4", checked := Ybad.checked }
namespace Rows
def none {H : Type} : Left H := { results := [], args := [] }

/- WHAT THE LISTED PACKAGE-LEVEL VARIABLES READ AS WHEN THE CALL BEGINS. Each datum BY PROGRAM (the guide's laid-datum.mjs) off the statement by which the dump's own 'gosem.cut.vars' lays the variable. In a bare row this is a premise. The card (YbulkasmaDoorCards.lean) ties it to the program's text. -/
def laid_example_com_earthlag_earthlag_monthDays {H : Type} : DataW H := .agg [.lit (.int .i64 31), .lit (.int .i64 28), .lit (.int .i64 31), .lit (.int .i64 30), .lit (.int .i64 31), .lit (.int .i64 30), .lit (.int .i64 31), .lit (.int .i64 31), .lit (.int .i64 30), .lit (.int .i64 31), .lit (.int .i64 30), .lit (.int .i64 31)]

/-- 'earthlag.LawS2197AModel': WHATEVER THE INPUT: true; the input reads as it did. -/
def lawS2197AModelSpec : ChangeSpec := { name := "lawS2197AModel", vars := ["example.com/earthlag/earthlag.monthDays"], fn := fun _ => fun
  | [d1, d2, d3, g1] => { results := [.lit (.bool true)], args := [d1, d2, d3], vars := [g1] }
  | _ => none }
def lawS2197AModelRow : OpenClaim := { program := "ybulkasmadoor", sum := "602d8bb3cf5cce7af2e1cffb64df19df8755b277da92330757a8f6ce7125aff4", func := "example.com/earthlag/earthlag.LawS2197AModel", spec := "lawS2197AModel", inPlace := ["math.Float64bits", "math.Float64frombits"], named := ["example.com/earthlag/earthlag.monthDays"], apart := false, laid := [("example.com/earthlag/earthlag.monthDays", laid_example_com_earthlag_earthlag_monthDays)] }
def LawS2197AModelSaid : Prop := lawS2197AModelRow.holds Ybad.pinned (OpenSpec.ofChange lawS2197AModelSpec)

/-- ITS FALSE NEIGHBOUR: 'it returns false'. Refute it at one input. -/
def lawS2197AModelWrong : ChangeSpec := { name := "lawS2197AModel", vars := ["example.com/earthlag/earthlag.monthDays"], fn := fun _ => fun
  | [d1, d2, d3, g1] => { results := [.lit (.bool false)], args := [d1, d2, d3], vars := [g1] }
  | _ => none }
def LawS2197AModelWrongFalsely : Prop := lawS2197AModelRow.holds Ybad.pinned (OpenSpec.ofChange lawS2197AModelWrong)

/-- 'earthlag.LawS2197AHalfYear': WHATEVER THE INPUT: true; the input reads as it did. -/
def lawS2197AHalfYearSpec : ChangeSpec := { name := "lawS2197AHalfYear", vars := ["example.com/earthlag/earthlag.monthDays"], fn := fun _ => fun
  | [d1, d2, d3, g1] => { results := [.lit (.bool true)], args := [d1, d2, d3], vars := [g1] }
  | _ => none }
def lawS2197AHalfYearRow : OpenClaim := { program := "ybulkasmadoor", sum := "602d8bb3cf5cce7af2e1cffb64df19df8755b277da92330757a8f6ce7125aff4", func := "example.com/earthlag/earthlag.LawS2197AHalfYear", spec := "lawS2197AHalfYear", inPlace := ["math.Float64bits", "math.Float64frombits"], named := ["example.com/earthlag/earthlag.monthDays"], apart := false, laid := [("example.com/earthlag/earthlag.monthDays", laid_example_com_earthlag_earthlag_monthDays)] }
def LawS2197AHalfYearSaid : Prop := lawS2197AHalfYearRow.holds Ybad.pinned (OpenSpec.ofChange lawS2197AHalfYearSpec)

/-- ITS FALSE NEIGHBOUR: 'it returns false'. Refute it at one input. -/
def lawS2197AHalfYearWrong : ChangeSpec := { name := "lawS2197AHalfYear", vars := ["example.com/earthlag/earthlag.monthDays"], fn := fun _ => fun
  | [d1, d2, d3, g1] => { results := [.lit (.bool false)], args := [d1, d2, d3], vars := [g1] }
  | _ => none }
def LawS2197AHalfYearWrongFalsely : Prop := lawS2197AHalfYearRow.holds Ybad.pinned (OpenSpec.ofChange lawS2197AHalfYearWrong)

end Rows
end Go.Proofs.YbulkasmaDoor
