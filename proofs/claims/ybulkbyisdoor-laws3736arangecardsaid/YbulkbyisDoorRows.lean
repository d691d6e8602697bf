/-
  NARROWER THAN 'FOR EVERY INPUT', by the rows' own cells (each row's printed sentence says how): LawS3736ARange: laid · LawS3736ASymmetric: laid.
  DERIVED. THE GIVEN ROWS OF THIS SEAT. 2 by the template 'for every input the law returns true; each argument reads behind the call as it read before'; 0 by the template 'total and deterministic' (their statements: YbulkbyisDoorTotals.lean).
  GIVEN WITH THE SEED: the statements are not yours to turn. If you find one false, say at which input.
  Laid BY PROGRAM, IN A SANDBOX (cutbox-rows.mjs): the forced cells as the released guide's own fill.sh prints them over the translation 5c5384a2375d5e66… (all of the seat's roots in one cut). By AI agents, Wed Nov 11 2026. No macro, syntax, notation, axiom, sorry.
-/
import Derived.Test.YbulkbyisDoorChecked
import GoSem.Claim
import GoSem.ClaimJoined
import GoSem.ClaimMapViews
import Derived.JoinedTies
import Derived.KernelRfl
namespace Go.Proofs.YbulkbyisDoor
/- THE CELL 'sum', in the pinned program and in every row, IS THE sha256 OF THE DUMP (.gsa) THAT YbulkbyisDoorProg.lean LOADS. Nothing in Lean hashes anything: it is a label: what it is worth is what the hold of that sum in a sandbox is worth. -/
noncomputable def Ybad.pinned : Pinned := { name := "ybulkbyisdoor", sum := "5c5384a2375d5e667e56aa3c4928cce781dfc43bb511e401bc89051b7f843996", checked := Ybad.checked }
namespace Rows
def none {H : Type} : Left H := { results := [], args := [] }

/- WHAT THE LISTED PACKAGE-LEVEL VARIABLES READ AS WHEN THE CALL BEGINS. Each datum BY PROGRAM (the guide's laid-datum.mjs) off the statement by which the dump's own 'gosem.cut.vars' lays the variable. In a bare row this is a premise. The card (YbulkbyisDoorCards.lean) ties it to the program's text. -/
def laid_example_com_vestline_vestline_blackscholes_expTaylor {H : Type} : DataW H := .agg [.lit (.float .f64 4602678819172646912), .lit (.float .f64 4595172819793696085), .lit (.float .f64 4586165620538955093), .lit (.float .f64 4575957461383581969), .lit (.float .f64 4564047942368979991), .lit (.float .f64 4551452160554016794), .lit (.float .f64 4537941361671905306), .lit (.float .f64 4523617214285662004), .lit (.float .f64 4508805057796939612), .lit (.float .f64 4493156764026750180), .lit (.float .f64 4477122120089393304), .lit (.float .f64 4460272573143870729)]

/-- 'blackscholes.LawS3736ARange': WHATEVER THE INPUT: true; the input reads as it did. -/
def lawS3736ARangeSpec : ChangeSpec := { name := "lawS3736ARange", vars := ["example.com/vestline/vestline/blackscholes.expTaylor"], fn := fun _ => fun
  | [d, g1] => { results := [.lit (.bool true)], args := [d], vars := [g1] }
  | _ => none }
def lawS3736ARangeRow : OpenClaim := { program := "ybulkbyisdoor", sum := "5c5384a2375d5e667e56aa3c4928cce781dfc43bb511e401bc89051b7f843996", func := "example.com/vestline/vestline/blackscholes.LawS3736ARange", spec := "lawS3736ARange", inPlace := ["math.Float64bits", "math.Float64frombits", "math.archFloor", "math.archTrunc"], named := ["example.com/vestline/vestline/blackscholes.expTaylor"], apart := false, laid := [("example.com/vestline/vestline/blackscholes.expTaylor", laid_example_com_vestline_vestline_blackscholes_expTaylor)] }
def LawS3736ARangeSaid : Prop := lawS3736ARangeRow.holds Ybad.pinned (OpenSpec.ofChange lawS3736ARangeSpec)

/-- ITS FALSE NEIGHBOUR: 'it returns false'. Refute it at one input. -/
def lawS3736ARangeWrong : ChangeSpec := { name := "lawS3736ARange", vars := ["example.com/vestline/vestline/blackscholes.expTaylor"], fn := fun _ => fun
  | [d, g1] => { results := [.lit (.bool false)], args := [d], vars := [g1] }
  | _ => none }
def LawS3736ARangeWrongFalsely : Prop := lawS3736ARangeRow.holds Ybad.pinned (OpenSpec.ofChange lawS3736ARangeWrong)

/-- 'blackscholes.LawS3736ASymmetric': WHATEVER THE INPUT: true; the input reads as it did. -/
def lawS3736ASymmetricSpec : ChangeSpec := { name := "lawS3736ASymmetric", vars := ["example.com/vestline/vestline/blackscholes.expTaylor"], fn := fun _ => fun
  | [d, g1] => { results := [.lit (.bool true)], args := [d], vars := [g1] }
  | _ => none }
def lawS3736ASymmetricRow : OpenClaim := { program := "ybulkbyisdoor", sum := "5c5384a2375d5e667e56aa3c4928cce781dfc43bb511e401bc89051b7f843996", func := "example.com/vestline/vestline/blackscholes.LawS3736ASymmetric", spec := "lawS3736ASymmetric", inPlace := ["math.Float64bits", "math.Float64frombits", "math.archFloor", "math.archTrunc"], named := ["example.com/vestline/vestline/blackscholes.expTaylor"], apart := false, laid := [("example.com/vestline/vestline/blackscholes.expTaylor", laid_example_com_vestline_vestline_blackscholes_expTaylor)] }
def LawS3736ASymmetricSaid : Prop := lawS3736ASymmetricRow.holds Ybad.pinned (OpenSpec.ofChange lawS3736ASymmetricSpec)

/-- ITS FALSE NEIGHBOUR: 'it returns false'. Refute it at one input. -/
def lawS3736ASymmetricWrong : ChangeSpec := { name := "lawS3736ASymmetric", vars := ["example.com/vestline/vestline/blackscholes.expTaylor"], fn := fun _ => fun
  | [d, g1] => { results := [.lit (.bool false)], args := [d], vars := [g1] }
  | _ => none }
def LawS3736ASymmetricWrongFalsely : Prop := lawS3736ASymmetricRow.holds Ybad.pinned (OpenSpec.ofChange lawS3736ASymmetricWrong)

end Rows
end Go.Proofs.YbulkbyisDoor
