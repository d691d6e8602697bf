/-
  NARROWER THAN 'FOR EVERY INPUT', by the rows' own cells (each row's printed sentence says how): LawS3741CEmptyPaths: laid.
  DERIVED. THE GIVEN ROWS OF THIS SEAT. 1 by the template 'for every input the law returns true; each argument reads behind the call as it read before'; 0 by the template 'total and deterministic' (their statements: YbulkbylkDoorTotals.lean).
  GIVEN WITH THE SEED: the statements are not yours to turn. If you find one false, say at which input.
  Laid BY PROGRAM, IN A SANDBOX (cutbox-rows.mjs): the forced cells as the released guide's own fill.sh prints them over the translation 3273bd9c22a7e1b9… (all of the seat's roots in one cut). By AI agents, Wed Nov 11 2026. No macro, syntax, notation, axiom, sorry.
-/
import Derived.Test.YbulkbylkDoorChecked
import GoSem.Claim
import GoSem.ClaimJoined
import GoSem.ClaimMapViews
import Derived.JoinedTies
import Derived.KernelRfl
namespace Go.Proofs.YbulkbylkDoor
/- THE CELL 'sum', in the pinned program and in every row, IS THE sha256 OF THE DUMP (.gsa) THAT YbulkbylkDoorProg.lean LOADS. Nothing in Lean hashes anything: it is a label: what it is worth is what the hold of that sum in a sandbox is worth. -/
noncomputable def Ybad.pinned : Pinned := { name := "ybulkbylkdoor", sum := "3273bd9c22a7e1b96b5ca16422d4bb8d4bc5f38888a5eeef7e06c1c3038b383e", checked := Ybad.checked }
namespace Rows
def none {H : Type} : Left H := { results := [], args := [] }

/- WHAT THE LISTED PACKAGE-LEVEL VARIABLES READ AS WHEN THE CALL BEGINS. Each datum BY PROGRAM (the guide's laid-datum.mjs) off the statement by which the dump's own 'gosem.cut.vars' lays the variable. In a bare row this is a premise. The card (YbulkbylkDoorCards.lean) ties it to the program's text. -/
def laid_example_com_pairforge_pairforge_internal_ruleset_functions {H : Type} : DataW H := .slice [.agg [.lit (.string [109, 105, 110]), .agg [.lit (.int .i64 1), .lit (.int .i64 1)], .lit (.int .i64 1)], .agg [.lit (.string [109, 97, 120]), .agg [.lit (.int .i64 1), .lit (.int .i64 1)], .lit (.int .i64 1)], .agg [.lit (.string [97, 118, 103]), .agg [.lit (.int .i64 1), .lit (.int .i64 1)], .lit (.int .i64 1)], .agg [.lit (.string [109, 101, 100, 105, 97, 110]), .agg [.lit (.int .i64 1), .lit (.int .i64 1)], .lit (.int .i64 1)], .agg [.lit (.string [115, 117, 109]), .agg [.lit (.int .i64 1), .lit (.int .i64 1)], .lit (.int .i64 1)], .agg [.lit (.string [99, 111, 117, 110, 116]), .agg [.lit (.int .i64 0), .lit (.int .i64 1)], .lit (.int .i64 1)], .agg [.lit (.string [115, 116, 100, 100, 101, 118]), .agg [.lit (.int .i64 1), .lit (.int .i64 1)], .lit (.int .i64 1)], .agg [.lit (.string [102, 108, 97, 116, 116, 101, 110]), .agg [.lit (.int .i64 0), .lit (.int .i64 2)], .lit (.int .i64 0)], .agg [.lit (.string [115, 101, 116, 95, 105, 110, 116, 101, 114, 115, 101, 99, 116, 105, 111, 110]), .agg [.lit (.int .i64 2), .lit (.int .i64 2)], .lit (.int .i64 2)]] []

/-- 'match.LawS3741CEmptyPaths': WHATEVER THE INPUT: true; the input reads as it did. -/
def lawS3741CEmptyPathsSpec : ChangeSpec := { name := "lawS3741CEmptyPaths", vars := ["example.com/pairforge/pairforge/internal/ruleset.functions"], fn := fun _ => fun
  | [d1, d2, g1] => { results := [.lit (.bool true)], args := [d1, d2], vars := [g1] }
  | _ => none }
def lawS3741CEmptyPathsRow : OpenClaim := { program := "ybulkbylkdoor", sum := "3273bd9c22a7e1b96b5ca16422d4bb8d4bc5f38888a5eeef7e06c1c3038b383e", func := "example.com/pairforge/pairforge/internal/match.LawS3741CEmptyPaths", spec := "lawS3741CEmptyPaths", inPlace := ["math.Float64bits", "math.Float64frombits", "math.sqrt"], unfollowed := true, recurses := true, named := ["example.com/pairforge/pairforge/internal/ruleset.functions"], apart := false, laid := [("example.com/pairforge/pairforge/internal/ruleset.functions", laid_example_com_pairforge_pairforge_internal_ruleset_functions)] }
def LawS3741CEmptyPathsSaid : Prop := lawS3741CEmptyPathsRow.holds Ybad.pinned (OpenSpec.ofChange lawS3741CEmptyPathsSpec)

/-- ITS FALSE NEIGHBOUR: 'it returns false'. Refute it at one input. -/
def lawS3741CEmptyPathsWrong : ChangeSpec := { name := "lawS3741CEmptyPaths", vars := ["example.com/pairforge/pairforge/internal/ruleset.functions"], fn := fun _ => fun
  | [d1, d2, g1] => { results := [.lit (.bool false)], args := [d1, d2], vars := [g1] }
  | _ => none }
def LawS3741CEmptyPathsWrongFalsely : Prop := lawS3741CEmptyPathsRow.holds Ybad.pinned (OpenSpec.ofChange lawS3741CEmptyPathsWrong)

end Rows
end Go.Proofs.YbulkbylkDoor
