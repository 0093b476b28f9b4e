/-
  No cell of these rows narrows 'for every input' (looked for: loops, veiled, ifaces, maps, wideKeys, modest, calm, conditions, laid).
  DERIVED. THE GIVEN ROWS OF THIS SEAT. 3 by the template 'for every input the law returns true; each argument reads behind the call as it read before'; 0 by the template 'total and deterministic' (their statements: YbulkaslmTotals.lean).
  GIVEN WITH THE SEED: the statements are not yours to turn. If you find one false, say at which input.
  Laid BY PROGRAM, IN A SANDBOX (cutbox-rows.mjs): the forced cells as the released guide's own fill.sh prints them over the translation 301f3659cf1ffd14… (all of the seat's roots in one cut). By AI agents, Wed Nov 11 2026. No macro, syntax, notation, axiom, sorry.
-/
import Derived.Test.YbulkaslmChecked
import GoSem.Claim
import GoSem.ClaimJoined
import GoSem.ClaimMapViews
import Derived.JoinedTies
import Derived.KernelRfl
namespace Go.Proofs.Ybulkaslm
/- THE CELL 'sum', in the pinned program and in every row, IS THE sha256 OF THE DUMP (.gsa) THAT YbulkaslmProg.lean LOADS. Nothing in Lean hashes anything: it is a label: what it is worth is what the hold of that sum in a sandbox is worth. -/
noncomputable def Yba.pinned : Pinned := { name := "ybulkaslm", sum := "301f3659cf1ffd14fce30ac01f1966f8255baa8a64afe5c17144ea609ed56d0e", checked := Yba.checked }
namespace Rows
def none {H : Type} : Left H := { results := [], args := [] }

/-- 'latchwork.LawS2196AEnqueue': WHATEVER THE INPUT: true; the input reads as it did. -/
def lawS2196AEnqueueSpec : ChangeSpec := { name := "lawS2196AEnqueue", fn := fun _ => fun
  | [d1, d2, d3, d4, d5, d6] => { results := [.lit (.bool true)], args := [d1, d2, d3, d4, d5, d6] }
  | _ => none }
def lawS2196AEnqueueRow : OpenClaim := { program := "ybulkaslm", sum := "301f3659cf1ffd14fce30ac01f1966f8255baa8a64afe5c17144ea609ed56d0e", func := "example.com/latchwork/latchwork.LawS2196AEnqueue", spec := "lawS2196AEnqueue", inPlace := ["sync/atomic.StoreInt32", "(*internal/sync.Mutex).Lock", "internal/race.Disable", "sync/atomic.CompareAndSwapInt32", "internal/race.Enable", "internal/race.Acquire", "(*internal/sync.Mutex).lockSlow", "internal/sync.runtime_canSpin", "internal/sync.runtime_doSpin", "internal/sync.throw", "internal/sync.runtime_nanotime", "internal/sync.runtime_SemacquireMutex", "sync/atomic.AddInt32", "sync/atomic.LoadInt32", "(*internal/sync.Mutex).Unlock", "internal/race.ReleaseMerge", "(*internal/sync.Mutex).unlockSlow", "internal/sync.fatal", "internal/sync.runtime_Semrelease", "(*internal/sync.Mutex).TryLock"], apart := false }
def LawS2196AEnqueueSaid : Prop := lawS2196AEnqueueRow.holds Yba.pinned (OpenSpec.ofChange lawS2196AEnqueueSpec)

/-- ITS FALSE NEIGHBOUR: 'it returns false'. Refute it at one input. -/
def lawS2196AEnqueueWrong : ChangeSpec := { name := "lawS2196AEnqueue", fn := fun _ => fun
  | [d1, d2, d3, d4, d5, d6] => { results := [.lit (.bool false)], args := [d1, d2, d3, d4, d5, d6] }
  | _ => none }
def LawS2196AEnqueueWrongFalsely : Prop := lawS2196AEnqueueRow.holds Yba.pinned (OpenSpec.ofChange lawS2196AEnqueueWrong)

/-- 'latchwork.LawS2196CMarks': WHATEVER THE INPUT: true; the input reads as it did. -/
def lawS2196CMarksSpec : ChangeSpec := { name := "lawS2196CMarks", fn := fun _ => fun
  | [d1, d2, d3] => { results := [.lit (.bool true)], args := [d1, d2, d3] }
  | _ => none }
def lawS2196CMarksRow : OpenClaim := { program := "ybulkaslm", sum := "301f3659cf1ffd14fce30ac01f1966f8255baa8a64afe5c17144ea609ed56d0e", func := "example.com/latchwork/latchwork.LawS2196CMarks", spec := "lawS2196CMarks", inPlace := ["sync/atomic.StoreUint32", "sync/atomic.StorePointer", "sync/atomic.CompareAndSwapPointer", "sync/atomic.LoadPointer", "sync/atomic.LoadUint32"], apart := false }
def LawS2196CMarksSaid : Prop := lawS2196CMarksRow.holds Yba.pinned (OpenSpec.ofChange lawS2196CMarksSpec)

/-- ITS FALSE NEIGHBOUR: 'it returns false'. Refute it at one input. -/
def lawS2196CMarksWrong : ChangeSpec := { name := "lawS2196CMarks", fn := fun _ => fun
  | [d1, d2, d3] => { results := [.lit (.bool false)], args := [d1, d2, d3] }
  | _ => none }
def LawS2196CMarksWrongFalsely : Prop := lawS2196CMarksRow.holds Yba.pinned (OpenSpec.ofChange lawS2196CMarksWrong)

/-- 'latchwork.LawS2196CApart': WHATEVER THE INPUT: true; the input reads as it did. -/
def lawS2196CApartSpec : ChangeSpec := { name := "lawS2196CApart", fn := fun _ => fun
  | [d1, d2] => { results := [.lit (.bool true)], args := [d1, d2] }
  | _ => none }
def lawS2196CApartRow : OpenClaim := { program := "ybulkaslm", sum := "301f3659cf1ffd14fce30ac01f1966f8255baa8a64afe5c17144ea609ed56d0e", func := "example.com/latchwork/latchwork.LawS2196CApart", spec := "lawS2196CApart", inPlace := ["sync/atomic.LoadPointer", "sync/atomic.CompareAndSwapPointer", "sync/atomic.LoadUint32"], apart := false }
def LawS2196CApartSaid : Prop := lawS2196CApartRow.holds Yba.pinned (OpenSpec.ofChange lawS2196CApartSpec)

/-- ITS FALSE NEIGHBOUR: 'it returns false'. Refute it at one input. -/
def lawS2196CApartWrong : ChangeSpec := { name := "lawS2196CApart", fn := fun _ => fun
  | [d1, d2] => { results := [.lit (.bool false)], args := [d1, d2] }
  | _ => none }
def LawS2196CApartWrongFalsely : Prop := lawS2196CApartRow.holds Yba.pinned (OpenSpec.ofChange lawS2196CApartWrong)

end Rows
end Go.Proofs.Ybulkaslm
