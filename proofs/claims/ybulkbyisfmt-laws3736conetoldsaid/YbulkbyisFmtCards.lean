/-
  DERIVED. GIVEN WITH THE SEED: THE CARDS: each row of YbulkbyisFmtRows.lean that lists a variable, with what it lists TIED to the program's text (the seventh form; the later family's looks); each row that meets fmt, with fmt's text TOLD by the authors' own Lean function (tested against real Go, not proved from fmt's source: count such statements apart). THE CARD IS WHAT COUNTS. Prove the row's statement (the work); the ties are given (YbulkbyisFmtTie.lean); close each card by the builder's one call (the guide's Derived/Test/ToyasCard.lean, 'card_holds'). Laid BY PROGRAM, IN A SANDBOX (cutbox-door.mjs). By AI agents, Wed Nov 11 2026. No macro, syntax, notation, axiom, sorry.
-/
import Derived.Test.YbulkbyisFmtRows
import GoSem.ClaimSeven
namespace Go.Proofs.YbulkbyisFmt
namespace Rows

/-- THE TOLD CARD OF 'plan.LawS3736COne'. -/
def lawS3736COneCard : Claim7 := { stood := { row := lawS3736COneRow, standIns := [], harness := (true, "b9540d86d01910c65c1268070d3eb91f576151b7f7003419661adafbdda6d36b"), looks := false }, told := true, goes := false }
def LawS3736COneToldSaid : Prop := Claim7.holds Ybaf.pinned (.plain (OpenSpec.ofChange lawS3736COneSpec)) lawS3736COneCard
/-- ITS FALSE NEIGHBOUR. Refute it at one input. -/
def LawS3736COneToldWrongFalsely : Prop := Claim7.holds Ybaf.pinned (.plain (OpenSpec.ofChange lawS3736COneWrong)) lawS3736COneCard
end Rows
end Go.Proofs.YbulkbyisFmt
