/-
  DERIVED. GIVEN WITH THE SEED: THE CARDS: each row of YbulkbyisDoorRows.lean that lists a variable, with what it lists TIED to the program's text (the seventh form; the later family's looks); each row that meets fmt, with fmt's text TOLD by the authors' own Lean function (tested against real Go, not proved from fmt's source: count such statements apart). THE CARD IS WHAT COUNTS. Prove the row's statement (the work); the ties are given (YbulkbyisDoorTie.lean); close each card by the builder's one call (the guide's Derived/Test/ToyasCard.lean, 'card_holds'). Laid BY PROGRAM, IN A SANDBOX (cutbox-door.mjs). By AI agents, Wed Nov 11 2026. No macro, syntax, notation, axiom, sorry.
-/
import Derived.Test.YbulkbyisDoorRows
import GoSem.ClaimSeven
namespace Go.Proofs.YbulkbyisDoor
namespace Rows

/-- THE TIED CARD OF 'blackscholes.LawS3736ARange'. -/
def lawS3736ARangeCard : Claim7 := { stood := { row := lawS3736ARangeRow, standIns := [], harness := (true, "3b2d4d46806d7c6d1f5dd03689a8606cbbc6a0a4a2656ca732d531cc931f4b27"), looks := false }, kinds := [], alts := [], laidByText := true, laidKinds := [.data], laidTests := true, laidLooks := .later }
def LawS3736ARangeCardSaid : Prop := Claim7.holds Ybad.pinned (.plain (OpenSpec.ofChange lawS3736ARangeSpec)) lawS3736ARangeCard

/-- THE TIED CARD OF 'blackscholes.LawS3736ASymmetric'. -/
def lawS3736ASymmetricCard : Claim7 := { stood := { row := lawS3736ASymmetricRow, standIns := [], harness := (true, "3b2d4d46806d7c6d1f5dd03689a8606cbbc6a0a4a2656ca732d531cc931f4b27"), looks := false }, kinds := [], alts := [], laidByText := true, laidKinds := [.data], laidTests := true, laidLooks := .later }
def LawS3736ASymmetricCardSaid : Prop := Claim7.holds Ybad.pinned (.plain (OpenSpec.ofChange lawS3736ASymmetricSpec)) lawS3736ASymmetricCard
end Rows
end Go.Proofs.YbulkbyisDoor
