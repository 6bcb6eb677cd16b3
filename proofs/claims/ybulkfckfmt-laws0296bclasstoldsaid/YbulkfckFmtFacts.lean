/-
  DERIVED. CLOSED FACTS FOR THE WALKS OVER THE STOPPED fmt.errorf, after the worked examples' GuardFmt.lean, turned to this program's numbers. Made by an AI agent.
-/
import Derived.Test.YbulkfckFmtRows
import Derived.Stop.CallBack
import Derived.Stop.IfaceNil
import GoSem.ClaimData
namespace Go.Proofs.YbulkfckFmt
open Go.Extern.Stop Go.Stop Go.Extern
set_option maxRecDepth 100000

theorem call19 (args : Array Value) (w : World) : (callFunc 19 args).run Ybaf.prog w = ((FmtStop.errorf #[9, 80] #[50] args).run Ybaf.prog w).andThen fun v w' => .ok (.value v) w' :=
  run_callFunc_extern Ybaf.func19 (by kernel_rfl) (by kernel_rfl) (by kernel_rfl) (by kernel_rfl) args w

theorem fguard (name : String) (w : World) : (FmtStop.guard name).run Ybaf.prog w = .ok () w := by kernel_rfl

/-- The dynamic type's name, off the given datum. -/
def errName : String := match (Rows.laid_example_com_lamina_lamina_ErrTxDone : DataW Unit) with
  | .iface n _ => n
  | _ => ""

abbrev failedFmt : Array UInt8 := #[116, 104, 101, 32, 116, 114, 97, 110, 115, 97, 99, 116, 105, 111, 110, 32, 102, 97, 105, 108, 101, 100, 32, 97, 110, 100, 32, 99, 97, 110, 32, 111, 110, 108, 121, 32, 98, 101, 32, 114, 111, 108, 108, 101, 100, 32, 98, 97, 99, 107, 58, 32, 37, 119]
abbrev seesFmt : Array UInt8 := #[116, 97, 98, 108, 101, 32, 37, 115, 32, 105, 115, 32, 110, 111, 116, 32, 97, 32, 116, 97, 98, 108, 101, 32, 116, 104, 105, 115, 32, 116, 114, 97, 110, 115, 97, 99, 116, 105, 111, 110, 32, 115, 101, 101, 115]

theorem fmt0 : FmtStop.printed? ⟨#[116, 104, 101, 32, 116, 114, 97, 110, 115, 97, 99, 116, 105, 111, 110, 32, 102, 97, 105, 108, 101, 100, 32, 97, 110, 100, 32, 99, 97, 110, 32, 111, 110, 108, 121, 32, 98, 101, 32, 114, 111, 108, 108, 101, 100, 32, 98, 97, 99, 107, 58, 32, 37, 119]⟩ 1 = some [(0, 119, false)] := by kernel_rfl
theorem fmt0r (w : World) : (FmtDoors.printed ⟨#[116, 104, 101, 32, 116, 114, 97, 110, 115, 97, 99, 116, 105, 111, 110, 32, 102, 97, 105, 108, 101, 100, 32, 97, 110, 100, 32, 99, 97, 110, 32, 111, 110, 108, 121, 32, 98, 101, 32, 114, 111, 108, 108, 101, 100, 32, 98, 97, 99, 107, 58, 32, 37, 119]⟩ 1).run Ybaf.prog w = .ok [(0, 119, false)] w := by kernel_rfl
theorem fmt1 : FmtStop.printed? ⟨#[116, 97, 98, 108, 101, 32, 37, 115, 32, 105, 115, 32, 110, 111, 116, 32, 97, 32, 116, 97, 98, 108, 101, 32, 116, 104, 105, 115, 32, 116, 114, 97, 110, 115, 97, 99, 116, 105, 111, 110, 32, 115, 101, 101, 115]⟩ 1 = some [(0, 115, false)] := by kernel_rfl
theorem fmt1r (w : World) : (FmtDoors.printed ⟨#[116, 97, 98, 108, 101, 32, 37, 115, 32, 105, 115, 32, 110, 111, 116, 32, 97, 32, 116, 97, 98, 108, 101, 32, 116, 104, 105, 115, 32, 116, 114, 97, 110, 115, 97, 99, 116, 105, 111, 110, 32, 115, 101, 101, 115]⟩ 1).run Ybaf.prog w = .ok [(0, 115, false)] w := by kernel_rfl

def shape9 : List UInt8 := [12, 6, 0, 0, 0, 0, 0, 0, 0, 115, 116, 114, 105, 110, 103]
theorem op9_115w (name : String) (x : ByteArray) (w : World) : (FmtStop.operand name true 115 false (.iface 9 (.string x))).run Ybaf.prog w = .ok (shape9, FmtStop.pack x.data.toList) w := by kernel_rfl

theorem ptr64 (w : World) : (FmtStop.ptrTo "errors.errorString").run Ybaf.prog w = .ok 64 w := by kernel_rfl
theorem elem64 (w : World) : (elemOf 64).run Ybaf.prog w = .ok 66 w := by kernel_rfl
theorem isError64' (w : World) : (FmtDoors.textMethod 64 "Error").run Ybaf.prog w = .ok true w := by kernel_rfl
theorem name64 : Ybaf.prog.typeName? 3 64 = some errName := by kernel_rfl
def plain64 : List UInt8 := 14 :: FmtStop.pack errName.toUTF8.data.toList
theorem opPlain64_119w (name : String) (a : Addr) (s : ByteArray) (w : World) (hc : w.cell? a = some (.string s)) :
    (FmtStop.operand name true 119 false (.iface 64 (.pointer (some a)))).run Ybaf.prog w = .ok (plain64, s.data.toList) w := by
  have h1 : (typeStr 64).run Ybaf.prog w = .ok errName w := by kernel_rfl
  have d2 : Ybaf.t64.desc = .pointer 66 := rfl
  have d3 : Ybaf.t66.desc = .named "errors.errorString" 65 := rfl
  simp [FmtStop.operand, h1, d2, d3, run_load, hc, plain64]
theorem ptr81 (w : World) : (FmtStop.ptrTo "fmt.wrapError").run Ybaf.prog w = .ok 81 w := by kernel_rfl
theorem elem81 (w : World) : (elemOf 81).run Ybaf.prog w = .ok 137 w := by kernel_rfl
theorem isError81' (w : World) : (FmtDoors.textMethod 81 "Error").run Ybaf.prog w = .ok true w := by kernel_rfl

end Go.Proofs.YbulkfckFmt
