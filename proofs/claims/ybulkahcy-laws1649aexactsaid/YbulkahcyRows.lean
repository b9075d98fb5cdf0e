/-
  No cell of these rows narrows 'for every input' (looked for: loops, veiled, ifaces, maps, wideKeys, modest, calm, conditions, laid).
  DERIVED. THE GIVEN ROWS OF THIS SEAT. 4 by the template 'for every input the law returns true; each argument reads behind the call as it read before'; 0 by the template 'total and deterministic' (their statements: YbulkahcyTotals.lean).
  GIVEN WITH THE SEED: the statements are not yours to turn. If you find one false, say at which input.
  Laid BY PROGRAM, IN A SANDBOX (cutbox-rows.mjs): the forced cells as the released guide's own fill.sh prints them over the translation 207305a623a4565c… (all of the seat's roots in one cut). By AI agents, Wed Nov 11 2026. No macro, syntax, notation, axiom, sorry.
-/
import Derived.Test.YbulkahcyChecked
import GoSem.Claim
import GoSem.ClaimJoined
import GoSem.ClaimMapViews
import Derived.JoinedTies
import Derived.KernelRfl
namespace Go.Proofs.Ybulkahcy
/- THE CELL 'sum', in the pinned program and in every row, IS THE sha256 OF THE DUMP (.gsa) THAT YbulkahcyProg.lean LOADS. Nothing in Lean hashes anything: it is a label: what it is worth is what the hold of that sum in a sandbox is worth. -/
noncomputable def Yba.pinned : Pinned := { name := "ybulkahcy", sum := "207305a623a4565cac370589a834623c9e5313ebda95c27dd80d7a5579e1365b", checked := Yba.checked }
namespace Rows
def none {H : Type} : Left H := { results := [], args := [] }

/-- 'vigilant-scheduler.LawS1649AExact': WHATEVER THE INPUT: true; the input reads as it did. -/
def lawS1649AExactSpec : ChangeSpec := { name := "lawS1649AExact", fn := fun _ => fun
  | [d1, d2, d3] => { results := [.lit (.bool true)], args := [d1, d2, d3] }
  | _ => none }
def lawS1649AExactRow : OpenClaim := { program := "ybulkahcy", sum := "207305a623a4565cac370589a834623c9e5313ebda95c27dd80d7a5579e1365b", func := "example.com/vigilant-scheduler/vigilant-scheduler.LawS1649AExact", spec := "lawS1649AExact", inPlace := ["sync/atomic.StoreUint64", "sync/atomic.LoadUint64", "sync/atomic.CompareAndSwapUint64"], apart := false }
def LawS1649AExactSaid : Prop := lawS1649AExactRow.holds Yba.pinned (OpenSpec.ofChange lawS1649AExactSpec)

/-- ITS FALSE NEIGHBOUR: 'it returns false'. Refute it at one input. -/
def lawS1649AExactWrong : ChangeSpec := { name := "lawS1649AExact", fn := fun _ => fun
  | [d1, d2, d3] => { results := [.lit (.bool false)], args := [d1, d2, d3] }
  | _ => none }
def LawS1649AExactWrongFalsely : Prop := lawS1649AExactRow.holds Yba.pinned (OpenSpec.ofChange lawS1649AExactWrong)

/-- 'vigilant-scheduler.LawS1649ARaw': WHATEVER THE INPUT: true; the input reads as it did. -/
def lawS1649ARawSpec : ChangeSpec := { name := "lawS1649ARaw", fn := fun _ => fun
  | [d] => { results := [.lit (.bool true)], args := [d] }
  | _ => none }
def lawS1649ARawRow : OpenClaim := { program := "ybulkahcy", sum := "207305a623a4565cac370589a834623c9e5313ebda95c27dd80d7a5579e1365b", func := "example.com/vigilant-scheduler/vigilant-scheduler.LawS1649ARaw", spec := "lawS1649ARaw", inPlace := ["sync/atomic.StoreUint64", "sync/atomic.LoadUint64", "sync/atomic.CompareAndSwapUint64"], apart := false }
def LawS1649ARawSaid : Prop := lawS1649ARawRow.holds Yba.pinned (OpenSpec.ofChange lawS1649ARawSpec)

/-- ITS FALSE NEIGHBOUR: 'it returns false'. Refute it at one input. -/
def lawS1649ARawWrong : ChangeSpec := { name := "lawS1649ARaw", fn := fun _ => fun
  | [d] => { results := [.lit (.bool false)], args := [d] }
  | _ => none }
def LawS1649ARawWrongFalsely : Prop := lawS1649ARawRow.holds Yba.pinned (OpenSpec.ofChange lawS1649ARawWrong)

/-- 'vigilant-scheduler.LawS1649AAgain': WHATEVER THE INPUT: true; the input reads as it did. -/
def lawS1649AAgainSpec : ChangeSpec := { name := "lawS1649AAgain", fn := fun _ => fun
  | [d1, d2, d3] => { results := [.lit (.bool true)], args := [d1, d2, d3] }
  | _ => none }
def lawS1649AAgainRow : OpenClaim := { program := "ybulkahcy", sum := "207305a623a4565cac370589a834623c9e5313ebda95c27dd80d7a5579e1365b", func := "example.com/vigilant-scheduler/vigilant-scheduler.LawS1649AAgain", spec := "lawS1649AAgain", inPlace := ["sync/atomic.StoreUint64", "sync/atomic.LoadUint64", "sync/atomic.CompareAndSwapUint64"], apart := false }
def LawS1649AAgainSaid : Prop := lawS1649AAgainRow.holds Yba.pinned (OpenSpec.ofChange lawS1649AAgainSpec)

/-- ITS FALSE NEIGHBOUR: 'it returns false'. Refute it at one input. -/
def lawS1649AAgainWrong : ChangeSpec := { name := "lawS1649AAgain", fn := fun _ => fun
  | [d1, d2, d3] => { results := [.lit (.bool false)], args := [d1, d2, d3] }
  | _ => none }
def LawS1649AAgainWrongFalsely : Prop := lawS1649AAgainRow.holds Yba.pinned (OpenSpec.ofChange lawS1649AAgainWrong)

/-- 'vigilant-scheduler.LawS1649BUnidle': WHATEVER THE INPUT: true; the input reads as it did. -/
def lawS1649BUnidleSpec : ChangeSpec := { name := "lawS1649BUnidle", fn := fun _ => fun
  | [d1, d2, d3, d4] => { results := [.lit (.bool true)], args := [d1, d2, d3, d4] }
  | _ => none }
def lawS1649BUnidleRow : OpenClaim := { program := "ybulkahcy", sum := "207305a623a4565cac370589a834623c9e5313ebda95c27dd80d7a5579e1365b", func := "example.com/vigilant-scheduler/vigilant-scheduler.LawS1649BUnidle", spec := "lawS1649BUnidle", inPlace := ["sync/atomic.StoreInt32", "sync/atomic.LoadInt32"], apart := false }
def LawS1649BUnidleSaid : Prop := lawS1649BUnidleRow.holds Yba.pinned (OpenSpec.ofChange lawS1649BUnidleSpec)

/-- ITS FALSE NEIGHBOUR: 'it returns false'. Refute it at one input. -/
def lawS1649BUnidleWrong : ChangeSpec := { name := "lawS1649BUnidle", fn := fun _ => fun
  | [d1, d2, d3, d4] => { results := [.lit (.bool false)], args := [d1, d2, d3, d4] }
  | _ => none }
def LawS1649BUnidleWrongFalsely : Prop := lawS1649BUnidleRow.holds Yba.pinned (OpenSpec.ofChange lawS1649BUnidleWrong)

end Rows
end Go.Proofs.Ybulkahcy
