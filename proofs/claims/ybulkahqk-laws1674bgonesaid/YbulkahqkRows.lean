/-
  No cell of these rows narrows 'for every input' (looked for: loops, veiled, ifaces, maps, wideKeys, modest, calm, conditions, laid).
  DERIVED. THE GIVEN ROWS OF THIS SEAT. 1 by the template 'for every input the law returns true; each argument reads behind the call as it read before'; 0 by the template 'total and deterministic' (their statements: YbulkahqkTotals.lean).
  GIVEN WITH THE SEED: the statements are not yours to turn. If you find one false, say at which input.
  Laid BY PROGRAM, IN A SANDBOX (cutbox-rows.mjs): the forced cells as the released guide's own fill.sh prints them over the translation 967a7632ee946147… (all of the seat's roots in one cut). By AI agents, Wed Nov 11 2026. No macro, syntax, notation, axiom, sorry.
-/
import Derived.Test.YbulkahqkChecked
import GoSem.Claim
import GoSem.ClaimJoined
import GoSem.ClaimMapViews
import Derived.JoinedTies
import Derived.KernelRfl
namespace Go.Proofs.Ybulkahqk
/- THE CELL 'sum', in the pinned program and in every row, IS THE sha256 OF THE DUMP (.gsa) THAT YbulkahqkProg.lean LOADS. Nothing in Lean hashes anything: it is a label: what it is worth is what the hold of that sum in a sandbox is worth. -/
noncomputable def Yba.pinned : Pinned := { name := "ybulkahqk", sum := "967a7632ee946147df876d140e5d4aed548a2516cd9d7c71db975f0b3052dd4b", checked := Yba.checked }
namespace Rows
def none {H : Type} : Left H := { results := [], args := [] }

/-- 'causeline.LawS1674BGone': WHATEVER THE INPUT: true; the input reads as it did. -/
def lawS1674BGoneSpec : ChangeSpec := { name := "lawS1674BGone", fn := fun _ => fun
  | [d1, d2, d3, d4] => { results := [.lit (.bool true)], args := [d1, d2, d3, d4] }
  | _ => none }
def lawS1674BGoneRow : OpenClaim := { program := "ybulkahqk", sum := "967a7632ee946147df876d140e5d4aed548a2516cd9d7c71db975f0b3052dd4b", func := "example.com/causeline/causeline.LawS1674BGone", spec := "lawS1674BGone", inPlace := ["maps.clone"], plainKeys := false, apart := false }
def LawS1674BGoneSaid : Prop := lawS1674BGoneRow.holds Yba.pinned (OpenSpec.ofChange lawS1674BGoneSpec)

/-- ITS FALSE NEIGHBOUR: 'it returns false'. Refute it at one input. -/
def lawS1674BGoneWrong : ChangeSpec := { name := "lawS1674BGone", fn := fun _ => fun
  | [d1, d2, d3, d4] => { results := [.lit (.bool false)], args := [d1, d2, d3, d4] }
  | _ => none }
def LawS1674BGoneWrongFalsely : Prop := lawS1674BGoneRow.holds Yba.pinned (OpenSpec.ofChange lawS1674BGoneWrong)

end Rows
end Go.Proofs.Ybulkahqk
