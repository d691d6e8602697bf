/-
  No cell of these rows narrows 'for every input' (looked for: loops, veiled, ifaces, maps, wideKeys, modest, calm, conditions, laid).
  DERIVED. THE GIVEN ROWS OF THIS SEAT. 1 by the template 'for every input the law returns true; each argument reads behind the call as it read before'; 0 by the template 'total and deterministic' (their statements: YbulkbyisFmtTotals.lean).
  GIVEN WITH THE SEED: the statements are not yours to turn. If you find one false, say at which input.
  Laid BY PROGRAM, IN A SANDBOX (cutbox-rows.mjs): the forced cells as the released guide's own fill.sh prints them over the translation 6b9cbf888fbdf6f6… (all of the seat's roots in one cut). By AI agents, Wed Nov 11 2026. No macro, syntax, notation, axiom, sorry.
-/
import Derived.Test.YbulkbyisFmtChecked
import GoSem.Claim
import GoSem.ClaimJoined
import GoSem.ClaimMapViews
import Derived.JoinedTies
import Derived.KernelRfl
namespace Go.Proofs.YbulkbyisFmt
/- THE CELL 'sum', in the pinned program and in every row, IS THE sha256 OF THE DUMP (.gsa) THAT YbulkbyisFmtProg.lean LOADS. Nothing in Lean hashes anything: it is a label: what it is worth is what the hold of that sum in a sandbox is worth. -/
noncomputable def Ybaf.pinned : Pinned := { name := "ybulkbyisfmt", sum := "6b9cbf888fbdf6f6ea52546baaa4f2efef79954ece9aecc3e71f60024284866d", checked := Ybaf.checked }
namespace Rows
def none {H : Type} : Left H := { results := [], args := [] }

/-- 'plan.LawS3736COne': WHATEVER THE INPUT: true; the input reads as it did. -/
def lawS3736COneSpec : ChangeSpec := { name := "lawS3736COne", fn := fun _ => fun
  | [d] => { results := [.lit (.bool true)], args := [d] }
  | _ => none }
def lawS3736COneRow : OpenClaim := { program := "ybulkbyisfmt", sum := "6b9cbf888fbdf6f6ea52546baaa4f2efef79954ece9aecc3e71f60024284866d", func := "example.com/vestline/vestline/plan.LawS3736COne", spec := "lawS3736COne", stops := ["fmt.Sprintf"], inPlace := ["fmt.Sprintf"], apart := false }
/-- NO THEOREM (fmt's text is open here; it may be false): for the released tool's asking of the row's closed facts alone. THE STATEMENT IS 'LawS3736COneToldSaid' (YbulkbyisFmtCards.lean). -/
def LawS3736COneFormAsk : Prop := lawS3736COneRow.holds Ybaf.pinned (OpenSpec.ofChange lawS3736COneSpec)

/-- ITS FALSE NEIGHBOUR: 'it returns false'. Refute it at one input. -/
def lawS3736COneWrong : ChangeSpec := { name := "lawS3736COne", fn := fun _ => fun
  | [d] => { results := [.lit (.bool false)], args := [d] }
  | _ => none }
def LawS3736COneWrongFormAsk : Prop := lawS3736COneRow.holds Ybaf.pinned (OpenSpec.ofChange lawS3736COneWrong)

end Rows
end Go.Proofs.YbulkbyisFmt
