/-
  No cell of these rows narrows 'for every input' (looked for: loops, veiled, ifaces, maps, wideKeys, modest, calm, conditions, laid).
  DERIVED. THE GIVEN ROWS OF THIS SEAT. 2 by the template 'for every input the law returns true; each argument reads behind the call as it read before'; 0 by the template 'total and deterministic' (their statements: YbulkahhuTotals.lean).
  GIVEN WITH THE SEED: the statements are not yours to turn. If you find one false, say at which input.
  Laid BY PROGRAM, IN A SANDBOX (cutbox-rows.mjs): the forced cells as the released guide's own fill.sh prints them over the translation b29c5b272fc93020… (all of the seat's roots in one cut). By AI agents, Wed Nov 11 2026. No macro, syntax, notation, axiom, sorry.
-/
import Derived.Test.YbulkahhuChecked
import GoSem.Claim
import GoSem.ClaimJoined
import GoSem.ClaimMapViews
import Derived.JoinedTies
import Derived.KernelRfl
namespace Go.Proofs.Ybulkahhu
/- THE CELL 'sum', in the pinned program and in every row, IS THE sha256 OF THE DUMP (.gsa) THAT YbulkahhuProg.lean LOADS. Nothing in Lean hashes anything: it is a label: what it is worth is what the hold of that sum in a sandbox is worth. -/
noncomputable def Yba.pinned : Pinned := { name := "ybulkahhu", sum := "b29c5b272fc930203fa14db298b87b89b50d448e328f62a1b2c54736e90aa4e8", checked := Yba.checked }
namespace Rows
def none {H : Type} : Left H := { results := [], args := [] }

/-- 'report.LawS1658CExact': WHATEVER THE INPUT: true; the input reads as it did. -/
def lawS1658CExactSpec : ChangeSpec := { name := "lawS1658CExact", fn := fun _ => fun
  | [d1, d2, d3, d4, d5] => { results := [.lit (.bool true)], args := [d1, d2, d3, d4, d5] }
  | _ => none }
def lawS1658CExactRow : OpenClaim := { program := "ybulkahhu", sum := "b29c5b272fc930203fa14db298b87b89b50d448e328f62a1b2c54736e90aa4e8", func := "example.com/pensionwright/pensionwright/internal/report.LawS1658CExact", spec := "lawS1658CExact", apart := false }
def LawS1658CExactSaid : Prop := lawS1658CExactRow.holds Yba.pinned (OpenSpec.ofChange lawS1658CExactSpec)

/-- ITS FALSE NEIGHBOUR: 'it returns false'. Refute it at one input. -/
def lawS1658CExactWrong : ChangeSpec := { name := "lawS1658CExact", fn := fun _ => fun
  | [d1, d2, d3, d4, d5] => { results := [.lit (.bool false)], args := [d1, d2, d3, d4, d5] }
  | _ => none }
def LawS1658CExactWrongFalsely : Prop := lawS1658CExactRow.holds Yba.pinned (OpenSpec.ofChange lawS1658CExactWrong)

/-- 'report.LawS1658CAfterAdd': WHATEVER THE INPUT: true; the input reads as it did. -/
def lawS1658CAfterAddSpec : ChangeSpec := { name := "lawS1658CAfterAdd", fn := fun _ => fun
  | [d1, d2, d3, d4, d5, d6] => { results := [.lit (.bool true)], args := [d1, d2, d3, d4, d5, d6] }
  | _ => none }
def lawS1658CAfterAddRow : OpenClaim := { program := "ybulkahhu", sum := "b29c5b272fc930203fa14db298b87b89b50d448e328f62a1b2c54736e90aa4e8", func := "example.com/pensionwright/pensionwright/internal/report.LawS1658CAfterAdd", spec := "lawS1658CAfterAdd", apart := false }
def LawS1658CAfterAddSaid : Prop := lawS1658CAfterAddRow.holds Yba.pinned (OpenSpec.ofChange lawS1658CAfterAddSpec)

/-- ITS FALSE NEIGHBOUR: 'it returns false'. Refute it at one input. -/
def lawS1658CAfterAddWrong : ChangeSpec := { name := "lawS1658CAfterAdd", fn := fun _ => fun
  | [d1, d2, d3, d4, d5, d6] => { results := [.lit (.bool false)], args := [d1, d2, d3, d4, d5, d6] }
  | _ => none }
def LawS1658CAfterAddWrongFalsely : Prop := lawS1658CAfterAddRow.holds Yba.pinned (OpenSpec.ofChange lawS1658CAfterAddWrong)

end Rows
end Go.Proofs.Ybulkahhu
