/-
  DERIVED. GIVEN WITH THE SEED: THE CARDS: each row of YbulkbyieFmtRows.lean that lists a variable, with what it lists TIED to the program's text (the seventh form; the later family's looks); each row that meets fmt, with fmt's text TOLD by the authors' own Lean function (tested against real Go, not proved from fmt's source: count such statements apart). THE CARD IS WHAT COUNTS. Prove the row's statement (the work); the ties are given (YbulkbyieFmtTie.lean); close each card by the builder's one call (the guide's Derived/Test/ToyasCard.lean, 'card_holds'). Laid BY PROGRAM, IN A SANDBOX (cutbox-door.mjs). By AI agents, Wed Nov 11 2026. No macro, syntax, notation, axiom, sorry.
-/
import Derived.Test.YbulkbyieFmtRows
import GoSem.ClaimSeven
namespace Go.Proofs.YbulkbyieFmt
namespace Rows

/-- THE TOLD AND TIED CARD OF 'message.LawS3735BExact'. -/
def lawS3735BExactCard : Claim7 := { stood := { row := lawS3735BExactRow, standIns := [], harness := (true, "3beb6f691dab7c69c674135f3af2e855764d7fa8f510430d8aa84eefc4653144"), looks := false }, told := true, laidByText := true, laidKinds := [.sentinel], laidTests := true, laidLooks := .later, goes := false }
def LawS3735BExactToldSaid : Prop := Claim7.holds Ybaf.pinned (.plain (OpenSpec.ofChange lawS3735BExactSpec)) lawS3735BExactCard
/-- ITS FALSE NEIGHBOUR. Refute it at one input. -/
def LawS3735BExactToldWrongFalsely : Prop := Claim7.holds Ybaf.pinned (.plain (OpenSpec.ofChange lawS3735BExactWrong)) lawS3735BExactCard

/-- THE TOLD AND TIED CARD OF 'message.LawS3735BBuilt'. -/
def lawS3735BBuiltCard : Claim7 := { stood := { row := lawS3735BBuiltRow, standIns := [], harness := (true, "3beb6f691dab7c69c674135f3af2e855764d7fa8f510430d8aa84eefc4653144"), looks := false }, told := true, laidByText := true, laidKinds := [.sentinel], laidTests := true, laidLooks := .later, goes := false }
def LawS3735BBuiltToldSaid : Prop := Claim7.holds Ybaf.pinned (.plain (OpenSpec.ofChange lawS3735BBuiltSpec)) lawS3735BBuiltCard
/-- ITS FALSE NEIGHBOUR. Refute it at one input. -/
def LawS3735BBuiltToldWrongFalsely : Prop := Claim7.holds Ybaf.pinned (.plain (OpenSpec.ofChange lawS3735BBuiltWrong)) lawS3735BBuiltCard

/-- THE TOLD AND TIED CARD OF 'message.LawS3735BRoundTrip'. -/
def lawS3735BRoundTripCard : Claim7 := { stood := { row := lawS3735BRoundTripRow, standIns := [], harness := (true, "3beb6f691dab7c69c674135f3af2e855764d7fa8f510430d8aa84eefc4653144"), looks := false }, told := true, laidByText := true, laidKinds := [.sentinel], laidTests := true, laidLooks := .later, goes := false }
def LawS3735BRoundTripToldSaid : Prop := Claim7.holds Ybaf.pinned (.plain (OpenSpec.ofChange lawS3735BRoundTripSpec)) lawS3735BRoundTripCard
/-- ITS FALSE NEIGHBOUR. Refute it at one input. -/
def LawS3735BRoundTripToldWrongFalsely : Prop := Claim7.holds Ybaf.pinned (.plain (OpenSpec.ofChange lawS3735BRoundTripWrong)) lawS3735BRoundTripCard
end Rows
end Go.Proofs.YbulkbyieFmt
