/-
  No cell of these rows narrows 'for every input' (looked for: loops, veiled, ifaces, maps, wideKeys, modest, calm, conditions, laid).
  DERIVED. THE GIVEN ROWS OF THIS SEAT. 5 by the template 'for every input the law returns true; each argument reads behind the call as it read before'; 0 by the template 'total and deterministic' (their statements: YbulkasmaTotals.lean).
  GIVEN WITH THE SEED: the statements are not yours to turn. If you find one false, say at which input.
  Laid BY PROGRAM, IN A SANDBOX (cutbox-rows.mjs): the forced cells as the released guide's own fill.sh prints them over the translation 0b9a50876db615ea… (all of the seat's roots in one cut). By AI agents, Wed Nov 11 2026. No macro, syntax, notation, axiom, sorry.
-/
import Derived.Test.YbulkasmaChecked
import GoSem.Claim
import GoSem.ClaimJoined
import GoSem.ClaimMapViews
import Derived.JoinedTies
import Derived.KernelRfl
namespace Go.Proofs.Ybulkasma
/- THE CELL 'sum', in the pinned program and in every row, IS THE sha256 OF THE DUMP (.gsa) THAT YbulkasmaProg.lean LOADS. Nothing in Lean hashes anything: it is a label: what it is worth is what the hold of that sum in a sandbox is worth. -/
noncomputable def Yba.pinned : Pinned := { name := "ybulkasma", sum := "0b9a50876db615ea06bb1f623a1290c02bd84e001c85039282d1ecf1adef13e0", checked := Yba.checked }
namespace Rows
def none {H : Type} : Left H := { results := [], args := [] }

/-- 'earthlag.LawS2197BYearLength': WHATEVER THE INPUT: true; the input reads as it did. -/
def lawS2197BYearLengthSpec : ChangeSpec := { name := "lawS2197BYearLength", fn := fun _ => fun
  | [d] => { results := [.lit (.bool true)], args := [d] }
  | _ => none }
def lawS2197BYearLengthRow : OpenClaim := { program := "ybulkasma", sum := "0b9a50876db615ea06bb1f623a1290c02bd84e001c85039282d1ecf1adef13e0", func := "example.com/earthlag/earthlag.LawS2197BYearLength", spec := "lawS2197BYearLength", inPlace := ["math.archFloor", "math.Float64bits", "math.Float64frombits", "math.archTrunc"], apart := false }
def LawS2197BYearLengthSaid : Prop := lawS2197BYearLengthRow.holds Yba.pinned (OpenSpec.ofChange lawS2197BYearLengthSpec)

/-- ITS FALSE NEIGHBOUR: 'it returns false'. Refute it at one input. -/
def lawS2197BYearLengthWrong : ChangeSpec := { name := "lawS2197BYearLength", fn := fun _ => fun
  | [d] => { results := [.lit (.bool false)], args := [d] }
  | _ => none }
def LawS2197BYearLengthWrongFalsely : Prop := lawS2197BYearLengthRow.holds Yba.pinned (OpenSpec.ofChange lawS2197BYearLengthWrong)

/-- 'earthlag.LawS2197BFraction': WHATEVER THE INPUT: true; the input reads as it did. -/
def lawS2197BFractionSpec : ChangeSpec := { name := "lawS2197BFraction", fn := fun _ => fun
  | [d1, d2] => { results := [.lit (.bool true)], args := [d1, d2] }
  | _ => none }
def lawS2197BFractionRow : OpenClaim := { program := "ybulkasma", sum := "0b9a50876db615ea06bb1f623a1290c02bd84e001c85039282d1ecf1adef13e0", func := "example.com/earthlag/earthlag.LawS2197BFraction", spec := "lawS2197BFraction", inPlace := ["math.archFloor", "math.Float64bits", "math.Float64frombits", "math.archTrunc"], apart := false }
def LawS2197BFractionSaid : Prop := lawS2197BFractionRow.holds Yba.pinned (OpenSpec.ofChange lawS2197BFractionSpec)

/-- ITS FALSE NEIGHBOUR: 'it returns false'. Refute it at one input. -/
def lawS2197BFractionWrong : ChangeSpec := { name := "lawS2197BFraction", fn := fun _ => fun
  | [d1, d2] => { results := [.lit (.bool false)], args := [d1, d2] }
  | _ => none }
def LawS2197BFractionWrongFalsely : Prop := lawS2197BFractionRow.holds Yba.pinned (OpenSpec.ofChange lawS2197BFractionWrong)

/-- 'earthlag.LawS2197CNodes': WHATEVER THE INPUT: true; the input reads as it did. -/
def lawS2197CNodesSpec : ChangeSpec := { name := "lawS2197CNodes", fn := fun _ => fun
  | [d] => { results := [.lit (.bool true)], args := [d] }
  | _ => none }
def lawS2197CNodesRow : OpenClaim := { program := "ybulkasma", sum := "0b9a50876db615ea06bb1f623a1290c02bd84e001c85039282d1ecf1adef13e0", func := "example.com/earthlag/earthlag.LawS2197CNodes", spec := "lawS2197CNodes", inPlace := ["math.Float64bits", "math.Float64frombits", "math.archFloor", "math.archTrunc"], apart := false }
def LawS2197CNodesSaid : Prop := lawS2197CNodesRow.holds Yba.pinned (OpenSpec.ofChange lawS2197CNodesSpec)

/-- ITS FALSE NEIGHBOUR: 'it returns false'. Refute it at one input. -/
def lawS2197CNodesWrong : ChangeSpec := { name := "lawS2197CNodes", fn := fun _ => fun
  | [d] => { results := [.lit (.bool false)], args := [d] }
  | _ => none }
def LawS2197CNodesWrongFalsely : Prop := lawS2197CNodesRow.holds Yba.pinned (OpenSpec.ofChange lawS2197CNodesWrong)

/-- 'earthlag.LawS2197CLocal': WHATEVER THE INPUT: true; the input reads as it did. -/
def lawS2197CLocalSpec : ChangeSpec := { name := "lawS2197CLocal", fn := fun _ => fun
  | [d1, d2] => { results := [.lit (.bool true)], args := [d1, d2] }
  | _ => none }
def lawS2197CLocalRow : OpenClaim := { program := "ybulkasma", sum := "0b9a50876db615ea06bb1f623a1290c02bd84e001c85039282d1ecf1adef13e0", func := "example.com/earthlag/earthlag.LawS2197CLocal", spec := "lawS2197CLocal", inPlace := ["math.Float64bits", "math.Float64frombits", "math.archFloor", "math.archTrunc"], apart := false }
def LawS2197CLocalSaid : Prop := lawS2197CLocalRow.holds Yba.pinned (OpenSpec.ofChange lawS2197CLocalSpec)

/-- ITS FALSE NEIGHBOUR: 'it returns false'. Refute it at one input. -/
def lawS2197CLocalWrong : ChangeSpec := { name := "lawS2197CLocal", fn := fun _ => fun
  | [d1, d2] => { results := [.lit (.bool false)], args := [d1, d2] }
  | _ => none }
def LawS2197CLocalWrongFalsely : Prop := lawS2197CLocalRow.holds Yba.pinned (OpenSpec.ofChange lawS2197CLocalWrong)

/-- 'earthlag.LawS2197CNegate': WHATEVER THE INPUT: true; the input reads as it did. -/
def lawS2197CNegateSpec : ChangeSpec := { name := "lawS2197CNegate", fn := fun _ => fun
  | [d1, d2] => { results := [.lit (.bool true)], args := [d1, d2] }
  | _ => none }
def lawS2197CNegateRow : OpenClaim := { program := "ybulkasma", sum := "0b9a50876db615ea06bb1f623a1290c02bd84e001c85039282d1ecf1adef13e0", func := "example.com/earthlag/earthlag.LawS2197CNegate", spec := "lawS2197CNegate", inPlace := ["math.Float64bits", "math.Float64frombits", "math.archFloor", "math.archTrunc"], apart := false }
def LawS2197CNegateSaid : Prop := lawS2197CNegateRow.holds Yba.pinned (OpenSpec.ofChange lawS2197CNegateSpec)

/-- ITS FALSE NEIGHBOUR: 'it returns false'. Refute it at one input. -/
def lawS2197CNegateWrong : ChangeSpec := { name := "lawS2197CNegate", fn := fun _ => fun
  | [d1, d2] => { results := [.lit (.bool false)], args := [d1, d2] }
  | _ => none }
def LawS2197CNegateWrongFalsely : Prop := lawS2197CNegateRow.holds Yba.pinned (OpenSpec.ofChange lawS2197CNegateWrong)

end Rows
end Go.Proofs.Ybulkasma
