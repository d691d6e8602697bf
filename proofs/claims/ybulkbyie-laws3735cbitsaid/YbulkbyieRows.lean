/-
  No cell of these rows narrows 'for every input' (looked for: loops, veiled, ifaces, maps, wideKeys, modest, calm, conditions, laid).
  DERIVED. THE GIVEN ROWS OF THIS SEAT. 3 by the template 'for every input the law returns true; each argument reads behind the call as it read before'; 0 by the template 'total and deterministic' (their statements: YbulkbyieTotals.lean).
  GIVEN WITH THE SEED: the statements are not yours to turn. If you find one false, say at which input.
  Laid BY PROGRAM, IN A SANDBOX (cutbox-rows.mjs): the forced cells as the released guide's own fill.sh prints them over the translation 1de54587a66bdffe… (all of the seat's roots in one cut). By AI agents, Wed Nov 11 2026. No macro, syntax, notation, axiom, sorry.
-/
import Derived.Test.YbulkbyieChecked
import GoSem.Claim
import GoSem.ClaimJoined
import GoSem.ClaimMapViews
import Derived.JoinedTies
import Derived.KernelRfl
namespace Go.Proofs.Ybulkbyie
/- THE CELL 'sum', in the pinned program and in every row, IS THE sha256 OF THE DUMP (.gsa) THAT YbulkbyieProg.lean LOADS. Nothing in Lean hashes anything: it is a label: what it is worth is what the hold of that sum in a sandbox is worth. -/
noncomputable def Yba.pinned : Pinned := { name := "ybulkbyie", sum := "1de54587a66bdffefde7ac5e98000861b6f2cc39576a2f75add4370661d8e13d", checked := Yba.checked }
namespace Rows
def none {H : Type} : Left H := { results := [], args := [] }

/-- 'link.LawS3735AWrite': WHATEVER THE INPUT: true; the input reads as it did. -/
def lawS3735AWriteSpec : ChangeSpec := { name := "lawS3735AWrite", fn := fun _ => fun
  | [d1, d2, d3, d4] => { results := [.lit (.bool true)], args := [d1, d2, d3, d4] }
  | _ => none }
def lawS3735AWriteRow : OpenClaim := { program := "ybulkbyie", sum := "1de54587a66bdffefde7ac5e98000861b6f2cc39576a2f75add4370661d8e13d", func := "example.com/cairnway/cairnway/link.LawS3735AWrite", spec := "lawS3735AWrite", inPlace := ["(*internal/sync.Mutex).Lock", "internal/race.Disable", "sync/atomic.CompareAndSwapInt32", "internal/race.Enable", "internal/race.Acquire", "(*internal/sync.Mutex).lockSlow", "internal/sync.runtime_canSpin", "internal/sync.runtime_doSpin", "internal/sync.throw", "internal/sync.runtime_nanotime", "internal/sync.runtime_SemacquireMutex", "sync/atomic.AddInt32", "(*sync.Cond).Wait", "(*sync.copyChecker).check", "sync.runtime_notifyListAdd", "internal/race.Read", "sync.runtime_notifyListWait", "(*internal/sync.Mutex).Unlock", "internal/race.ReleaseMerge", "(*internal/sync.Mutex).unlockSlow", "internal/sync.fatal", "internal/sync.runtime_Semrelease", "(*sync.Cond).Broadcast", "sync.runtime_notifyListNotifyAll", "(*internal/sync.Mutex).TryLock", "sync/atomic.LoadUint32"], unfollowed := true, recurses := true, apart := false }
def LawS3735AWriteSaid : Prop := lawS3735AWriteRow.holds Yba.pinned (OpenSpec.ofChange lawS3735AWriteSpec)

/-- ITS FALSE NEIGHBOUR: 'it returns false'. Refute it at one input. -/
def lawS3735AWriteWrong : ChangeSpec := { name := "lawS3735AWrite", fn := fun _ => fun
  | [d1, d2, d3, d4] => { results := [.lit (.bool false)], args := [d1, d2, d3, d4] }
  | _ => none }
def LawS3735AWriteWrongFalsely : Prop := lawS3735AWriteRow.holds Yba.pinned (OpenSpec.ofChange lawS3735AWriteWrong)

/-- 'node.LawS3735CExact': WHATEVER THE INPUT: true; the input reads as it did. -/
def lawS3735CExactSpec : ChangeSpec := { name := "lawS3735CExact", fn := fun _ => fun
  | [d1, d2] => { results := [.lit (.bool true)], args := [d1, d2] }
  | _ => none }
def lawS3735CExactRow : OpenClaim := { program := "ybulkbyie", sum := "1de54587a66bdffefde7ac5e98000861b6f2cc39576a2f75add4370661d8e13d", func := "example.com/cairnway/cairnway/node.LawS3735CExact", spec := "lawS3735CExact", apart := false }
def LawS3735CExactSaid : Prop := lawS3735CExactRow.holds Yba.pinned (OpenSpec.ofChange lawS3735CExactSpec)

/-- ITS FALSE NEIGHBOUR: 'it returns false'. Refute it at one input. -/
def lawS3735CExactWrong : ChangeSpec := { name := "lawS3735CExact", fn := fun _ => fun
  | [d1, d2] => { results := [.lit (.bool false)], args := [d1, d2] }
  | _ => none }
def LawS3735CExactWrongFalsely : Prop := lawS3735CExactRow.holds Yba.pinned (OpenSpec.ofChange lawS3735CExactWrong)

/-- 'node.LawS3735CBit': WHATEVER THE INPUT: true; the input reads as it did. -/
def lawS3735CBitSpec : ChangeSpec := { name := "lawS3735CBit", fn := fun _ => fun
  | [d1, d2] => { results := [.lit (.bool true)], args := [d1, d2] }
  | _ => none }
def lawS3735CBitRow : OpenClaim := { program := "ybulkbyie", sum := "1de54587a66bdffefde7ac5e98000861b6f2cc39576a2f75add4370661d8e13d", func := "example.com/cairnway/cairnway/node.LawS3735CBit", spec := "lawS3735CBit", apart := false }
def LawS3735CBitSaid : Prop := lawS3735CBitRow.holds Yba.pinned (OpenSpec.ofChange lawS3735CBitSpec)

/-- ITS FALSE NEIGHBOUR: 'it returns false'. Refute it at one input. -/
def lawS3735CBitWrong : ChangeSpec := { name := "lawS3735CBit", fn := fun _ => fun
  | [d1, d2] => { results := [.lit (.bool false)], args := [d1, d2] }
  | _ => none }
def LawS3735CBitWrongFalsely : Prop := lawS3735CBitRow.holds Yba.pinned (OpenSpec.ofChange lawS3735CBitWrong)

end Rows
end Go.Proofs.Ybulkbyie
