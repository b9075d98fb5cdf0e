/-
  NARROWER THAN 'FOR EVERY INPUT', by the rows' own cells (each row's printed sentence says how): LawS1654BInit: laid · LawS1654BFresh: laid.
  DERIVED. THE GIVEN ROWS OF THIS SEAT. 2 by the template 'for every input the law returns true; each argument reads behind the call as it read before'; 0 by the template 'total and deterministic' (their statements: YbulkahfqDoorTotals.lean).
  GIVEN WITH THE SEED: the statements are not yours to turn. If you find one false, say at which input.
  Laid BY PROGRAM, IN A SANDBOX (cutbox-rows.mjs): the forced cells as the released guide's own fill.sh prints them over the translation 5cda844e27922eb6… (all of the seat's roots in one cut). By AI agents, Wed Nov 11 2026. No macro, syntax, notation, axiom, sorry.
-/
import Derived.Test.YbulkahfqDoorChecked
import GoSem.Claim
import GoSem.ClaimJoined
import GoSem.ClaimMapViews
import Derived.JoinedTies
import Derived.KernelRfl
namespace Go.Proofs.YbulkahfqDoor
/- THE CELL 'sum', in the pinned program and in every row, IS THE sha256 OF THE DUMP (.gsa) THAT YbulkahfqDoorProg.lean LOADS. Nothing in Lean hashes anything: it is a label: what it is worth is what the hold of that sum in a sandbox is worth. -/
noncomputable def Ybad.pinned : Pinned := { name := "ybulkahfqdoor", sum := "5cda844e27922eb62be098b388dbd0c5cefdc5d7158d701a2701ef50cf04ec73", checked := Ybad.checked }
namespace Rows
def none {H : Type} : Left H := { results := [], args := [] }

/- WHAT THE LISTED PACKAGE-LEVEL VARIABLES READ AS WHEN THE CALL BEGINS. Each datum BY PROGRAM (the guide's laid-datum.mjs) off the statement by which the dump's own 'gosem.cut.vars' lays the variable. In a bare row this is a premise. The card (YbulkahfqDoorCards.lean) ties it to the program's text. -/
def laid_example_com_etchmark_etchmark_internal_ed25519_sha512Init {H : Type} : DataW H := .agg [.lit (.int .u64 7640891576956012808), .lit (.int .u64 13503953896175478587), .lit (.int .u64 4354685564936845355), .lit (.int .u64 11912009170470909681), .lit (.int .u64 5840696475078001361), .lit (.int .u64 11170449401992604703), .lit (.int .u64 2270897969802886507), .lit (.int .u64 6620516959819538809)]

/-- 'ed25519.LawS1654BInit': WHATEVER THE INPUT: true; the input reads as it did. -/
def lawS1654BInitSpec : ChangeSpec := { name := "lawS1654BInit", vars := ["example.com/etchmark/etchmark/internal/ed25519.sha512Init"], fn := fun _ => fun
  | [g1] => { results := [.lit (.bool true)], args := [], vars := [g1] }
  | _ => none }
def lawS1654BInitRow : OpenClaim := { program := "ybulkahfqdoor", sum := "5cda844e27922eb62be098b388dbd0c5cefdc5d7158d701a2701ef50cf04ec73", func := "example.com/etchmark/etchmark/internal/ed25519.LawS1654BInit", spec := "lawS1654BInit", named := ["example.com/etchmark/etchmark/internal/ed25519.sha512Init"], apart := false, laid := [("example.com/etchmark/etchmark/internal/ed25519.sha512Init", laid_example_com_etchmark_etchmark_internal_ed25519_sha512Init)] }
def LawS1654BInitSaid : Prop := lawS1654BInitRow.holds Ybad.pinned (OpenSpec.ofChange lawS1654BInitSpec)

/-- ITS FALSE NEIGHBOUR: 'it returns false'. Refute it at one input. -/
def lawS1654BInitWrong : ChangeSpec := { name := "lawS1654BInit", vars := ["example.com/etchmark/etchmark/internal/ed25519.sha512Init"], fn := fun _ => fun
  | [g1] => { results := [.lit (.bool false)], args := [], vars := [g1] }
  | _ => none }
def LawS1654BInitWrongFalsely : Prop := lawS1654BInitRow.holds Ybad.pinned (OpenSpec.ofChange lawS1654BInitWrong)

/-- 'ed25519.LawS1654BFresh': WHATEVER THE INPUT: true; the input reads as it did. -/
def lawS1654BFreshSpec : ChangeSpec := { name := "lawS1654BFresh", vars := ["example.com/etchmark/etchmark/internal/ed25519.sha512Init"], fn := fun _ => fun
  | [d1, d2, d3, g1] => { results := [.lit (.bool true)], args := [d1, d2, d3], vars := [g1] }
  | _ => none }
def lawS1654BFreshRow : OpenClaim := { program := "ybulkahfqdoor", sum := "5cda844e27922eb62be098b388dbd0c5cefdc5d7158d701a2701ef50cf04ec73", func := "example.com/etchmark/etchmark/internal/ed25519.LawS1654BFresh", spec := "lawS1654BFresh", named := ["example.com/etchmark/etchmark/internal/ed25519.sha512Init"], apart := false, laid := [("example.com/etchmark/etchmark/internal/ed25519.sha512Init", laid_example_com_etchmark_etchmark_internal_ed25519_sha512Init)] }
def LawS1654BFreshSaid : Prop := lawS1654BFreshRow.holds Ybad.pinned (OpenSpec.ofChange lawS1654BFreshSpec)

/-- ITS FALSE NEIGHBOUR: 'it returns false'. Refute it at one input. -/
def lawS1654BFreshWrong : ChangeSpec := { name := "lawS1654BFresh", vars := ["example.com/etchmark/etchmark/internal/ed25519.sha512Init"], fn := fun _ => fun
  | [d1, d2, d3, g1] => { results := [.lit (.bool false)], args := [d1, d2, d3], vars := [g1] }
  | _ => none }
def LawS1654BFreshWrongFalsely : Prop := lawS1654BFreshRow.holds Ybad.pinned (OpenSpec.ofChange lawS1654BFreshWrong)

end Rows
end Go.Proofs.YbulkahfqDoor
