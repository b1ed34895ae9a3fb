/-
  What the two rows share: the closed facts on the listed variables; from the condition to io.EOF's cell; the door's own heap meets the condition.
-/
import Derived.Test.Qxb6615548aDoorRows
import Derived.ProofKit
import Derived.LaidMore
import Derived.OpenShut
import Derived.ShutString
import Derived.Stop.Joined
import Derived.Stop.LaidErr
namespace Go.Proofs.Qxb6615548aDoor
open Go.ChangeShapes Go.WideShapes Go.ChangeAt Go.WideMaps Go.WideElems Go.RowKit

theorem own : ownKnob Tryd.prog.godebug = none := by kernel_rfl
theorem gEOF : Tryd.prog.globalNamed "io.EOF" = some 0 := by kernel_rfl
theorem tEOF : (Tryd.prog.globals[0]?).map (·.type) = some 34 := by kernel_rfl
theorem Tryd.cells72 : Tryd.prog.cellsOf 72 = 1 := by kernel_rfl
theorem Tryd.cells9 : Tryd.prog.cellsOf 9 = 1 := by kernel_rfl
/-- The dynamic type's name, as the given datum spells it. -/
def nameOf : DataW Unit → String
  | .iface n _ => n
  | _ => ""
def nmE : String := nameOf Rows.laid_io_EOF
theorem row53 (u : TypeId) (h : Tryd.prog.typeName? 3 u = some nmE) : u = 53 :=
  typeName_ptr_named (nm := "errors.errorString") (by kernel_rfl) (by kernel_rfl) (by decide) u (h.trans (congrArg some (by decide)))

def laidAll : List (String × DataW Unit) := [("io.EOF", Rows.laid_io_EOF), ("io.ErrNoProgress", Rows.laid_io_ErrNoProgress), ("bufio.ErrBufferFull", Rows.laid_bufio_ErrBufferFull), ("bufio.ErrNegativeCount", Rows.laid_bufio_ErrNegativeCount), ("bufio.errNegativeRead", Rows.laid_bufio_errNegativeRead)]

theorem door_met (os : Os) (args : Array Value) : laidMetH Tryd.prog laidAll ((World.doorLaid Tryd.prog 104 os).forCall (fun _ _ => 0) ⟨#[], args, []⟩).memory :=
  laidMetH_of_parts3 (fuel := 8) (laidMet_of_run' 8 (by kernel_rfl) (by kernel_rfl)) (by kernel_rfl) (by kernel_rfl)

theorem eof_of_laid {W : World} (h : laidMetH Tryd.prog laidAll W) : ∃ a : Addr, W.cell? ⟨0, 0, none⟩ = some (.iface 53 (.pointer (some a))) := by
  rw [MakeChecks.laidMetH_plain _ _ _ (by kernel_rfl)] at h
  obtain ⟨a, s, hv, _⟩ := laid_sentinel h gEOF tEOF Tryd.underlying34 row53 Tryd.underlying53 Tryd.underlying72 rfl rfl Tryd.underlying9 Tryd.cells72 Tryd.cells9
  exact ⟨a, by simpa using World.var?_cell gEOF hv 0⟩

end Go.Proofs.Qxb6615548aDoor
