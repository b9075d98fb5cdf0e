/-
  DERIVED. GIVEN WITH THE SEED: THE CARDS: each row of YbulkahfqDoorRows.lean that lists a variable, with what it lists TIED to the program's text (the seventh form; the later family's looks); each row that meets fmt, with fmt's text TOLD by the authors' own Lean function (tested against real Go, not proved from fmt's source: count such statements apart). THE CARD IS WHAT COUNTS. Prove the row's statement (the work); the ties are given (YbulkahfqDoorTie.lean); close each card by the builder's one call (the guide's Derived/Test/ToyasCard.lean, 'card_holds'). Laid BY PROGRAM, IN A SANDBOX (cutbox-door.mjs). By AI agents, Wed Nov 11 2026. No macro, syntax, notation, axiom, sorry.
-/
import Derived.Test.YbulkahfqDoorRows
import GoSem.ClaimSeven
namespace Go.Proofs.YbulkahfqDoor
namespace Rows

/-- THE TIED CARD OF 'ed25519.LawS1654BInit'. -/
def lawS1654BInitCard : Claim7 := { stood := { row := lawS1654BInitRow, standIns := [], harness := (true, "7697e45df0693980e1abee0cbe51106d96ad0b208ab1c408b56e5fc88434c332"), looks := false }, kinds := [], alts := [], laidByText := true, laidKinds := [.data], laidTests := true, laidLooks := .later }
def LawS1654BInitCardSaid : Prop := Claim7.holds Ybad.pinned (.plain (OpenSpec.ofChange lawS1654BInitSpec)) lawS1654BInitCard

/-- THE TIED CARD OF 'ed25519.LawS1654BFresh'. -/
def lawS1654BFreshCard : Claim7 := { stood := { row := lawS1654BFreshRow, standIns := [], harness := (true, "7697e45df0693980e1abee0cbe51106d96ad0b208ab1c408b56e5fc88434c332"), looks := false }, kinds := [], alts := [], laidByText := true, laidKinds := [.data], laidTests := true, laidLooks := .later }
def LawS1654BFreshCardSaid : Prop := Claim7.holds Ybad.pinned (.plain (OpenSpec.ofChange lawS1654BFreshSpec)) lawS1654BFreshCard
end Rows
end Go.Proofs.YbulkahfqDoor
