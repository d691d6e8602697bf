/-
  DERIVED. GIVEN WITH THE SEED: THE CARDS: each row of YbulkbylkDoorRows.lean that lists a variable, with what it lists TIED to the program's text (the seventh form; the later family's looks); each row that meets fmt, with fmt's text TOLD by the authors' own Lean function (tested against real Go, not proved from fmt's source: count such statements apart). THE CARD IS WHAT COUNTS. Prove the row's statement (the work); the ties are given (YbulkbylkDoorTie.lean); close each card by the builder's one call (the guide's Derived/Test/ToyasCard.lean, 'card_holds'). Laid BY PROGRAM, IN A SANDBOX (cutbox-door.mjs). By AI agents, Wed Nov 11 2026. No macro, syntax, notation, axiom, sorry.
-/
import Derived.Test.YbulkbylkDoorRows
import GoSem.ClaimSeven
namespace Go.Proofs.YbulkbylkDoor
namespace Rows

/-- THE TIED CARD OF 'match.LawS3741CEmptyPaths'. -/
def lawS3741CEmptyPathsCard : Claim7 := { stood := { row := lawS3741CEmptyPathsRow, standIns := [], harness := (true, "b5b62c0aa68ee0e9707bf9d57cdeb0783c91f720a7a9675fc8d183fb429ad903"), looks := false }, kinds := [], alts := [], laidByText := true, laidKinds := [.data], laidTests := true, laidLooks := .later }
def LawS3741CEmptyPathsCardSaid : Prop := Claim7.holds Ybad.pinned (.plain (OpenSpec.ofChange lawS3741CEmptyPathsSpec)) lawS3741CEmptyPathsCard
end Rows
end Go.Proofs.YbulkbylkDoor
