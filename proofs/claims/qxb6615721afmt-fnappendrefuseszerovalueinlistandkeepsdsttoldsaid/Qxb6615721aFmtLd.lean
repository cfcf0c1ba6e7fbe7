import Derived.Test.Qxb6615721aFmtW6
import Derived.ProofKit
import Derived.Stop.JoinedAt
import Derived.Stop.JoinedTold
import Derived.Lib.LaidTab
import Derived.Stop.LaidErr
import Derived.Lib.LaidIn
import Derived.Deep.DeepWitnessRef
import Derived.Deep.DeepWitnessRowRef
namespace Go.Proofs.Qxb6615721aFmt
open Go.ChangeShapes Go.WideShapes Go.ChangeAt Go.RowKit Go.Kit Go.Lib
open Go.Extern.Stop Go.Stop Go.Extern

/-- The list of the rows: what the three tables read as. -/
abbrev laidAll : List (String × DataW Unit) := Rows.fnIsDigitAcceptsExactlyTheTenDigitsAppendWritesRow.laid

/-- The cells of a table, off its datum. -/
def cellsOfDatum : DataW Unit → List Value
  | .agg xs => xs.map fun
    | .lit (.int k z) => .int k z
    | _ => .bool false
  | _ => []

def putCells (h : Array Obj) (g : Nat) (cs : List Value) : Array Obj := h.modify g fun
  | .cells _ t frozen => .cells cs.toArray t frozen
  | o => o

/-- A world with the three tables laid. -/
def withTabs (w : World) : World :=
  { w with heap := putCells (putCells (putCells w.heap 0 (cellsOfDatum Rows.laid_internal_strconv_uint64pow10)) 1 (cellsOfDatum Rows.laid_math_bits_deBruijn32tab)) 2 (cellsOfDatum Rows.laid_math_bits_deBruijn64tab) }

set_option maxRecDepth 1000000 in
theorem laid_met (os : Os) (args : Array Value) : laidMet Tryf.prog laidAll ((withTabs (World.holding Tryf.prog os ⟨#[], #[], []⟩)).forCall (fun _ _ => 0) ⟨#[], args, []⟩).memory :=
  (LaidIn.of_run [1, 2, 0] 8 (by kernel_rfl) (by kernel_rfl) (by kernel_rfl) (by kernel_rfl)).met

theorem Tryf.own : ownKnob Tryf.prog.godebug = none := by kernel_rfl
theorem Tryf.laidOut : laidOutB Tryf.pinned.checked.prog = true := by kernel_rfl
theorem Tryf.gT : Tryf.prog.globalNamed powName = some 0 := by kernel_rfl
theorem Tryf.gTType : (Tryf.prog.globals[0]?).map (·.type) = some 98 := by kernel_rfl

/-- FROM THE ROW's CONDITION TO WHAT THE WALKS ASK. -/
theorem tab_of_laid {W : World} (h : laidMet Tryf.prog laidAll W) : Tab W := by
  have h2 : laidMet Tryf.prog [(powName, Lib.tabData .u64 Lib.pow10Tab)] W := laidMet.tail (laidMet.tail h)
  exact Lib.tabIs_of_head Tryf.gT Tryf.gTType Tryf.underlying98 Tryf.underlying29 (by kernel_rfl) (by kernel_rfl) h2

theorem Tryf.stopKnobs : Tryf.pinned.checked.prog.stopKnobs = [] := by kernel_rfl
theorem Tryf.quiet (os : Os) : Stop.quiet Tryf.pinned.checked.prog os := by
  intro k hk
  rw [Tryf.stopKnobs] at hk
  cases hk

end Go.Proofs.Qxb6615721aFmt
