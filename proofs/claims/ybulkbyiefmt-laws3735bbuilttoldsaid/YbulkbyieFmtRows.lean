/-
  NARROWER THAN 'FOR EVERY INPUT', by the rows' own cells (each row's printed sentence says how): LawS3735BExact: ifaces, laid · LawS3735BBuilt: ifaces, laid · LawS3735BRoundTrip: ifaces, laid.
  DERIVED. THE GIVEN ROWS OF THIS SEAT. 3 by the template 'for every input the law returns true; each argument reads behind the call as it read before'; 0 by the template 'total and deterministic' (their statements: YbulkbyieFmtTotals.lean).
  GIVEN WITH THE SEED: the statements are not yours to turn. If you find one false, say at which input.
  Laid BY PROGRAM, IN A SANDBOX (cutbox-rows.mjs): the forced cells as the released guide's own fill.sh prints them over the translation 45ad24bdf296af48… (all of the seat's roots in one cut). By AI agents, Wed Nov 11 2026. No macro, syntax, notation, axiom, sorry.
-/
import Derived.Test.YbulkbyieFmtChecked
import GoSem.Claim
import GoSem.ClaimJoined
import GoSem.ClaimMapViews
import Derived.JoinedTies
import Derived.KernelRfl
namespace Go.Proofs.YbulkbyieFmt
/- THE CELL 'sum', in the pinned program and in every row, IS THE sha256 OF THE DUMP (.gsa) THAT YbulkbyieFmtProg.lean LOADS. Nothing in Lean hashes anything: it is a label: what it is worth is what the hold of that sum in a sandbox is worth. -/
noncomputable def Ybaf.pinned : Pinned := { name := "ybulkbyiefmt", sum := "45ad24bdf296af48c1751f77ba55099016ecff25f7085c0ae8a1acba99e79230", checked := Ybaf.checked }
namespace Rows
def none {H : Type} : Left H := { results := [], args := [] }

/- WHAT THE LISTED PACKAGE-LEVEL VARIABLES READ AS WHEN THE CALL BEGINS. Each datum BY PROGRAM (the guide's laid-datum.mjs) off the statement by which the dump's own 'gosem.cut.vars' lays the variable. In a bare row this is a premise. The card (YbulkbyieFmtCards.lean) ties it to the program's text. -/
def laid_example_com_cairnway_cairnway_wire_ErrShort {H : Type} : DataW H := .iface "*errors.errorString" (.ptr (.agg [.lit (.string [119, 105, 114, 101, 58, 32, 116, 114, 117, 110, 99, 97, 116, 101, 100])]))

/-- 'message.LawS3735BExact': WHATEVER THE INPUT: true; the input reads as it did. -/
def lawS3735BExactSpec : ChangeSpec := { name := "lawS3735BExact", vars := ["example.com/cairnway/cairnway/wire.ErrShort"], fn := fun _ => fun
  | [d, g1] => { results := [.lit (.bool true)], args := [d], vars := [g1] }
  | _ => none }
def lawS3735BExactRow : OpenClaim := { program := "ybulkbyiefmt", sum := "45ad24bdf296af48c1751f77ba55099016ecff25f7085c0ae8a1acba99e79230", func := "example.com/cairnway/cairnway/message.LawS3735BExact", spec := "lawS3735BExact", stops := ["fmt.errorf"], inPlace := ["fmt.errorf"], named := ["example.com/cairnway/cairnway/wire.ErrShort"], ifaces := true, apart := false, laid := [("example.com/cairnway/cairnway/wire.ErrShort", laid_example_com_cairnway_cairnway_wire_ErrShort)] }
/-- NO THEOREM (fmt's text is open here; it may be false): for the released tool's asking of the row's closed facts alone. THE STATEMENT IS 'LawS3735BExactToldSaid' (YbulkbyieFmtCards.lean). -/
def LawS3735BExactFormAsk : Prop := lawS3735BExactRow.holds Ybaf.pinned (OpenSpec.ofChange lawS3735BExactSpec)

/-- ITS FALSE NEIGHBOUR: 'it returns false'. Refute it at one input. -/
def lawS3735BExactWrong : ChangeSpec := { name := "lawS3735BExact", vars := ["example.com/cairnway/cairnway/wire.ErrShort"], fn := fun _ => fun
  | [d, g1] => { results := [.lit (.bool false)], args := [d], vars := [g1] }
  | _ => none }
def LawS3735BExactWrongFormAsk : Prop := lawS3735BExactRow.holds Ybaf.pinned (OpenSpec.ofChange lawS3735BExactWrong)

/-- 'message.LawS3735BBuilt': WHATEVER THE INPUT: true; the input reads as it did. -/
def lawS3735BBuiltSpec : ChangeSpec := { name := "lawS3735BBuilt", vars := ["example.com/cairnway/cairnway/wire.ErrShort"], fn := fun _ => fun
  | [d1, d2, g1] => { results := [.lit (.bool true)], args := [d1, d2], vars := [g1] }
  | _ => none }
def lawS3735BBuiltRow : OpenClaim := { program := "ybulkbyiefmt", sum := "45ad24bdf296af48c1751f77ba55099016ecff25f7085c0ae8a1acba99e79230", func := "example.com/cairnway/cairnway/message.LawS3735BBuilt", spec := "lawS3735BBuilt", stops := ["fmt.errorf"], inPlace := ["fmt.errorf"], named := ["example.com/cairnway/cairnway/wire.ErrShort"], ifaces := true, apart := false, laid := [("example.com/cairnway/cairnway/wire.ErrShort", laid_example_com_cairnway_cairnway_wire_ErrShort)] }
/-- NO THEOREM (fmt's text is open here; it may be false): for the released tool's asking of the row's closed facts alone. THE STATEMENT IS 'LawS3735BBuiltToldSaid' (YbulkbyieFmtCards.lean). -/
def LawS3735BBuiltFormAsk : Prop := lawS3735BBuiltRow.holds Ybaf.pinned (OpenSpec.ofChange lawS3735BBuiltSpec)

/-- ITS FALSE NEIGHBOUR: 'it returns false'. Refute it at one input. -/
def lawS3735BBuiltWrong : ChangeSpec := { name := "lawS3735BBuilt", vars := ["example.com/cairnway/cairnway/wire.ErrShort"], fn := fun _ => fun
  | [d1, d2, g1] => { results := [.lit (.bool false)], args := [d1, d2], vars := [g1] }
  | _ => none }
def LawS3735BBuiltWrongFormAsk : Prop := lawS3735BBuiltRow.holds Ybaf.pinned (OpenSpec.ofChange lawS3735BBuiltWrong)

/-- 'message.LawS3735BRoundTrip': WHATEVER THE INPUT: true; the input reads as it did. -/
def lawS3735BRoundTripSpec : ChangeSpec := { name := "lawS3735BRoundTrip", vars := ["example.com/cairnway/cairnway/wire.ErrShort"], fn := fun _ => fun
  | [g1] => { results := [.lit (.bool true)], args := [], vars := [g1] }
  | _ => none }
def lawS3735BRoundTripRow : OpenClaim := { program := "ybulkbyiefmt", sum := "45ad24bdf296af48c1751f77ba55099016ecff25f7085c0ae8a1acba99e79230", func := "example.com/cairnway/cairnway/message.LawS3735BRoundTrip", spec := "lawS3735BRoundTrip", stops := ["fmt.errorf"], inPlace := ["fmt.errorf"], named := ["example.com/cairnway/cairnway/wire.ErrShort"], ifaces := true, apart := false, laid := [("example.com/cairnway/cairnway/wire.ErrShort", laid_example_com_cairnway_cairnway_wire_ErrShort)] }
/-- NO THEOREM (fmt's text is open here; it may be false): for the released tool's asking of the row's closed facts alone. THE STATEMENT IS 'LawS3735BRoundTripToldSaid' (YbulkbyieFmtCards.lean). -/
def LawS3735BRoundTripFormAsk : Prop := lawS3735BRoundTripRow.holds Ybaf.pinned (OpenSpec.ofChange lawS3735BRoundTripSpec)

/-- ITS FALSE NEIGHBOUR: 'it returns false'. Refute it at one input. -/
def lawS3735BRoundTripWrong : ChangeSpec := { name := "lawS3735BRoundTrip", vars := ["example.com/cairnway/cairnway/wire.ErrShort"], fn := fun _ => fun
  | [g1] => { results := [.lit (.bool false)], args := [], vars := [g1] }
  | _ => none }
def LawS3735BRoundTripWrongFormAsk : Prop := lawS3735BRoundTripRow.holds Ybaf.pinned (OpenSpec.ofChange lawS3735BRoundTripWrong)

end Rows
end Go.Proofs.YbulkbyieFmt
