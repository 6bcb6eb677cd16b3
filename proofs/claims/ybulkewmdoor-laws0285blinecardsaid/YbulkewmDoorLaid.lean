/- WHAT THE ROWS' CONDITION 'laid' GIVES THE WALKS: the sentinel's cell; and closed facts on the program's tables. -/
import Derived.Test.YbulkewmDoorRows
import Derived.LaidMore
import Derived.LaidLaws
import Derived.Stop.Joined
import Derived.Stop.LaidErr
namespace Go.Proofs.YbulkewmDoor
open Go

theorem own : ownKnob Ybad.prog.godebug = none := by kernel_rfl
/-- The first listed variable's name, and the name of its dynamic type, off the given data. -/
def bareName : String := (Rows.lawS0285BStepRow.laid.map (·.1)).headD default
def nameIn : DataW Unit → String
  | .iface n _ => n
  | _ => default
theorem gBare : Ybad.prog.globalNamed bareName = some 0 := by kernel_rfl
theorem tBare : (Ybad.prog.globals[0]?).map (·.type) = some 32 := by kernel_rfl
theorem cells61 : Ybad.prog.cellsOf 61 = 1 := by kernel_rfl
theorem cells9 : Ybad.prog.cellsOf 9 = 1 := by kernel_rfl
theorem row41 (u : TypeId) (h : Ybad.prog.typeName? 3 u = some (nameIn Rows.laid_encoding_csv_ErrBareQuote)) : u = 41 :=
  typeName_ptr_named (nm := "errors.errorString") (by kernel_rfl) (by kernel_rfl) (by decide) u h

theorem bare_cell {r : List (String × DataW Unit)} {W : World} (h : laidMet Ybad.prog ((bareName, Rows.laid_encoding_csv_ErrBareQuote) :: r) W) :
    ∃ a : Addr, W.cell? ⟨0, 0, none⟩ = some (.iface 41 (.pointer (some a))) := by
  obtain ⟨a, s, hv, _, _, _⟩ := laid_sentinel h gBare tBare Ybad.underlying32 row41 Ybad.underlying41 Ybad.underlying61 rfl rfl Ybad.underlying9 cells61 cells9
  exact ⟨a, by simpa using World.var?_cell gBare hv 0⟩
end Go.Proofs.YbulkewmDoor
