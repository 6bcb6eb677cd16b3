/-
  NARROWER THAN 'FOR EVERY INPUT', by the rows' own cells (each row's printed sentence says how): LawS0285BStep: laid · LawS0285BLine: laid.
  DERIVED. THE GIVEN ROWS OF THIS SEAT. 2 by the template 'for every input the law returns true; each argument reads behind the call as it read before'; 0 by the template 'total and deterministic' (their statements: YbulkewmDoorTotals.lean).
  GIVEN WITH THE SEED: the statements are not yours to turn. If you find one false, say at which input.
  Laid BY PROGRAM, IN A SANDBOX (cutbox-rows.mjs): the forced cells as the released guide's own fill.sh prints them over the translation bcc58aabd8aa8233… (all of the seat's roots in one cut). By AI agents, Wed Nov 11 2026. No macro, syntax, notation, axiom, sorry.
-/
import Derived.Test.YbulkewmDoorChecked
import GoSem.Claim
import GoSem.ClaimJoined
import GoSem.ClaimMapViews
import Derived.JoinedTies
import Derived.KernelRfl
namespace Go.Proofs.YbulkewmDoor
/- THE CELL 'sum', in the pinned program and in every row, IS THE sha256 OF THE DUMP (.gsa) THAT YbulkewmDoorProg.lean LOADS. Nothing in Lean hashes anything: it is a label: what it is worth is what the hold of that sum in a sandbox is worth. -/
noncomputable def Ybad.pinned : Pinned := { name := "ybulkewmdoor", sum := "bcc58aabd8aa8233bff0a66e10430c84191b6a574bb68ee699d4cec927485224", checked := Ybad.checked }
namespace Rows
def none {H : Type} : Left H := { results := [], args := [] }

/- WHAT THE LISTED PACKAGE-LEVEL VARIABLES READ AS WHEN THE CALL BEGINS. Each datum BY PROGRAM (the guide's laid-datum.mjs) off the statement by which the dump's own 'gosem.cut.vars' lays the variable. In a bare row this is a premise. The card (YbulkewmDoorCards.lean) ties it to the program's text. -/
def laid_encoding_csv_ErrBareQuote {H : Type} : DataW H := .iface "*errors.errorString" (.ptr (.agg [.lit (.string [98, 97, 114, 101, 32, 34, 32, 105, 110, 32, 110, 111, 110, 45, 113, 117, 111, 116, 101, 100, 45, 102, 105, 101, 108, 100])]))
def laid_encoding_csv_ErrQuote {H : Type} : DataW H := .iface "*errors.errorString" (.ptr (.agg [.lit (.string [101, 120, 116, 114, 97, 110, 101, 111, 117, 115, 32, 111, 114, 32, 109, 105, 115, 115, 105, 110, 103, 32, 34, 32, 105, 110, 32, 113, 117, 111, 116, 101, 100, 45, 102, 105, 101, 108, 100])]))

/-- 'record.LawS0285BStep': WHATEVER THE INPUT: true; the input reads as it did. -/
def lawS0285BStepSpec : ChangeSpec := { name := "lawS0285BStep", fn := fun _ => fun
  | [d1, d2, d3, d4, d5] => { results := [.lit (.bool true)], args := [d1, d2, d3, d4, d5] }
  | _ => none }
def lawS0285BStepRow : OpenClaim := { program := "ybulkewmdoor", sum := "bcc58aabd8aa8233bff0a66e10430c84191b6a574bb68ee699d4cec927485224", func := "example.com/hyperzone/hyperzone/record.LawS0285BStep", spec := "lawS0285BStep", named := ["encoding/csv.ErrBareQuote"], apart := false, laid := [("encoding/csv.ErrBareQuote", laid_encoding_csv_ErrBareQuote)] }
def LawS0285BStepSaid : Prop := lawS0285BStepRow.holds Ybad.pinned (OpenSpec.ofChange lawS0285BStepSpec)

/-- ITS FALSE NEIGHBOUR: 'it returns false'. Refute it at one input. -/
def lawS0285BStepWrong : ChangeSpec := { name := "lawS0285BStep", fn := fun _ => fun
  | [d1, d2, d3, d4, d5] => { results := [.lit (.bool false)], args := [d1, d2, d3, d4, d5] }
  | _ => none }
def LawS0285BStepWrongFalsely : Prop := lawS0285BStepRow.holds Ybad.pinned (OpenSpec.ofChange lawS0285BStepWrong)

/-- 'record.LawS0285BLine': WHATEVER THE INPUT: true; the input reads as it did. -/
def lawS0285BLineSpec : ChangeSpec := { name := "lawS0285BLine", fn := fun _ => fun
  | [d] => { results := [.lit (.bool true)], args := [d] }
  | _ => none }
def lawS0285BLineRow : OpenClaim := { program := "ybulkewmdoor", sum := "bcc58aabd8aa8233bff0a66e10430c84191b6a574bb68ee699d4cec927485224", func := "example.com/hyperzone/hyperzone/record.LawS0285BLine", spec := "lawS0285BLine", named := ["encoding/csv.ErrQuote", "encoding/csv.ErrBareQuote"], apart := false, laid := [("encoding/csv.ErrBareQuote", laid_encoding_csv_ErrBareQuote), ("encoding/csv.ErrQuote", laid_encoding_csv_ErrQuote)] }
def LawS0285BLineSaid : Prop := lawS0285BLineRow.holds Ybad.pinned (OpenSpec.ofChange lawS0285BLineSpec)

/-- ITS FALSE NEIGHBOUR: 'it returns false'. Refute it at one input. -/
def lawS0285BLineWrong : ChangeSpec := { name := "lawS0285BLine", fn := fun _ => fun
  | [d] => { results := [.lit (.bool false)], args := [d] }
  | _ => none }
def LawS0285BLineWrongFalsely : Prop := lawS0285BLineRow.holds Ybad.pinned (OpenSpec.ofChange lawS0285BLineWrong)

end Rows
end Go.Proofs.YbulkewmDoor
