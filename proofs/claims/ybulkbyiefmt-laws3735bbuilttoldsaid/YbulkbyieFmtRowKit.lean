import Derived.Test.YbulkbyieFmtCards
import Derived.Test.YbulkbyieFmtTie
import Derived.Test.YbulkbyieFmtWalkA
import Derived.ProofKit
import Derived.Stop.JoinedAt
import Derived.Stop.JoinedTold
import Derived.Stop.Texts
import Derived.Stop.ErrReads
import Derived.Stop.LaidErr
import Derived.SevenTiedAt
namespace Go.Proofs.YbulkbyieFmt
open Go.ChangeShapes Go.WideShapes Go.ChangeAt Go.RowKit Go.Kit
open Go.Extern.Stop Go.Stop Go.Extern

theorem own : ownKnob Ybaf.prog.godebug = none := by kernel_rfl
theorem laidOut : laidOutB Ybaf.pinned.checked.prog = true := by kernel_rfl
theorem laidOut' : laidOutB Ybaf.prog = true := by kernel_rfl
theorem stops : Ybaf.pinned.checked.prog.stops = ["fmt.errorf"] := by kernel_rfl
theorem stopKnobs : Ybaf.pinned.checked.prog.stopKnobs = [] := by kernel_rfl
theorem quiet (os : Os) : Stop.quiet Ybaf.pinned.checked.prog os := by
  intro k hk
  rw [stopKnobs] at hk
  cases hk

/-- The listed variable's name, out of the given specification. -/
def shortName : String := Rows.lawS3735BExactSpec.vars.headD ""
theorem gS : Ybaf.prog.globalNamed shortName = some 0 := by kernel_rfl
theorem gSType : (Ybaf.prog.globals[0]?).map (·.type) = some 25 := by kernel_rfl
theorem cells46 : Ybaf.prog.cellsOf 46 = 1 := by kernel_rfl
theorem cells9 : Ybaf.prog.cellsOf 9 = 1 := by kernel_rfl
theorem cells5 : Ybaf.prog.cellsOf 5 = 1 := by kernel_rfl
theorem row44 (u : TypeId) (h : Ybaf.prog.typeName? 3 u = some (String.singleton '*' ++ "errors.errorString")) : u = 44 :=
  typeName_ptr_named (nm := "errors.errorString") (by kernel_rfl) (by kernel_rfl) (by decide) u h

/-- One start that fits: the sentinel as its initialiser lays it: variable number g holds a pointer to a new errors.errorString. -/
def laidWorldOf (P : Program) (os : Os) (tp te : TypeId) (low g : Nat) (s : ByteArray) : World :=
  let w0 := World.holding P os ⟨#[.cells #[.string s] te], #[], []⟩
  { w0 with heap := w0.heap.modify g fun
      | .cells _ t frozen => .cells #[.iface tp (.pointer (some ⟨low, 0, none⟩))] t frozen
      | o => o }
abbrev shortS : ByteArray := { data := #[119, 105, 114, 101, 58, 32, 116, 114, 117, 110, 99, 97, 116, 101, 100] }
theorem laidS_met (os : Os) (args : Array Value) : laidMet Ybaf.prog Rows.lawS3735BExactRow.laid ((laidWorldOf Ybaf.prog os 44 46 (World.holding Ybaf.prog default ⟨#[], #[], []⟩).heap.size 0 shortS).forCall (fun _ _ => 0) ⟨#[], args, []⟩).memory :=
  laidMet_of_run (ps := [.cell 0 0, .cell (World.holding Ybaf.prog default ⟨#[], #[], []⟩).heap.size 0]) 8 (by kernel_rfl) (by kernel_rfl) (by kernel_rfl)

theorem var?_below {P : Program} {B g : Nat} {W W' : World} {n : String} {cs : Array Value} (h : Below B W W') (hg : P.globalNamed n = some g) (hgB : g < B) (hv : W.var? P n = some cs) : W'.var? P n = some cs := by
  unfold World.var? at hv ⊢
  simp only [hg, Option.bind_some] at hv ⊢
  rw [h.block g hgB]
  exact hv
end Go.Proofs.YbulkbyieFmt
