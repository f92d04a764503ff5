/- Seat b6623336aF: a world in which the listed tables lie, and what the list says of the table of powers of ten. -/
import Derived.Test.Qxb6623336aFmtLaw4
import Derived.ProofKit
import Derived.ChangeSlices
import Derived.ChangeSame
import Derived.ChangeMaps5
import Derived.JoinedOf
import Derived.Carry
import Derived.Stop.JoinedAt
import Derived.Stop.Texts
import Derived.Stop.JoinedTold
import Derived.Stop.LaidErr
import Derived.Lib.LaidTab
import Derived.Lib.LaidIn
import Derived.SizedLaws
namespace Go.Proofs.Qxb6623336aFmt
open Go.ChangeShapes Go.WideShapes Go.ChangeAt Go.RowKit Go.Kit
open Go.Extern.Stop Go.Stop Go.Extern

theorem own_none : ownKnob Tryf.prog.godebug = none := by kernel_rfl
theorem laidOut : laidOutB Tryf.pinned.checked.prog = true := by kernel_rfl
theorem cells5 : Tryf.prog.cellsOf 5 = 1 := by kernel_rfl

/-- A table's cells. -/
def litCell : DataW Unit → Value
  | .lit (.int k z) => .int k z
  | _ => .int .u8 0
def litCells : DataW Unit → Array Value
  | .agg xs => (xs.map litCell).toArray
  | _ => #[]
def layCells (cs : Array Value) : Obj → Obj
  | .cells _ t fz => .cells cs t fz
  | o => o
/-- The settled world, the three tables laid. -/
def laidW (w0 : World) : World :=
  { w0 with heap := ((w0.heap.modify 0 (layCells (litCells Rows.laid_internal_strconv_uint64pow10))).modify 1 (layCells (litCells Rows.laid_math_bits_deBruijn32tab))).modify 2 (layCells (litCells Rows.laid_math_bits_deBruijn64tab)) }

theorem laid_met (os : Os) (args : Array Value) : laidMet Tryf.prog Rows.fnAlgorithmUnmarshalTextReadsStringRow.laid ((laidW (World.holding Tryf.prog os ⟨#[], #[], []⟩)).forCall (fun _ _ => 0) ⟨#[], args, []⟩).memory :=
  (LaidIn.of_run [0, 1, 2] 8 (by kernel_rfl) (by kernel_rfl) (by kernel_rfl) (by kernel_rfl)).met

theorem tab_of {W : World} (h : laidMet Tryf.prog Rows.fnAlgorithmUnmarshalTextReadsStringRow.laid W) : Lib.TabIs Tryf.prog W tabName .u64 Lib.pow10Tab := by
  have h1 : laidMet Tryf.prog ((Rows.fnAlgorithmUnmarshalTextReadsStringRow.laid.drop 2)) W := h.tail.tail
  have e : Rows.fnAlgorithmUnmarshalTextReadsStringRow.laid.drop 2 = [(tabName, Lib.tabData .u64 Lib.pow10Tab)] := by kernel_rfl
  rw [e] at h1
  exact Lib.tabIs_of_head (g := 0) (t := 49) (by kernel_rfl) (by kernel_rfl) Tryf.underlying49 (by kernel_rfl) (by kernel_rfl) (by kernel_rfl) h1

end Go.Proofs.Qxb6623336aFmt
