/-
  NARROWER THAN 'FOR EVERY INPUT', by the rows' own cells (each row's printed sentence says how): LawS0296BClass: ifaces, laid.
  DERIVED. THE GIVEN ROWS OF THIS SEAT. 3 by the template 'for every input the law returns true; each argument reads behind the call as it read before'; 0 by the template 'total and deterministic' (their statements: YbulkfckFmtTotals.lean).
  GIVEN WITH THE SEED: the statements are not yours to turn. If you find one false, say at which input.
  Laid BY PROGRAM, IN A SANDBOX (cutbox-rows.mjs): the forced cells as the released guide's own fill.sh prints them over the translation 7254f21e964714d9… (all of the seat's roots in one cut). By AI agents, Wed Nov 11 2026. No macro, syntax, notation, axiom, sorry.
-/
import Derived.Test.YbulkfckFmtChecked
import GoSem.Claim
import GoSem.ClaimJoined
import GoSem.ClaimMapViews
import Derived.JoinedTies
import Derived.KernelRfl
namespace Go.Proofs.YbulkfckFmt
/- THE CELL 'sum', in the pinned program and in every row, IS THE sha256 OF THE DUMP (.gsa) THAT YbulkfckFmtProg.lean LOADS. Nothing in Lean hashes anything: it is a label: what it is worth is what the hold of that sum in a sandbox is worth. -/
noncomputable def Ybaf.pinned : Pinned := { name := "ybulkfckfmt", sum := "7254f21e964714d932a73048c1032aa568f3e2d194a9075175045397b8dd4033", checked := Ybaf.checked }
namespace Rows
def none {H : Type} : Left H := { results := [], args := [] }

/- WHAT THE LISTED PACKAGE-LEVEL VARIABLES READ AS WHEN THE CALL BEGINS. Each datum BY PROGRAM (the guide's laid-datum.mjs) off the statement by which the dump's own 'gosem.cut.vars' lays the variable. In a bare row this is a premise. The card (YbulkfckFmtCards.lean) ties it to the program's text. -/
def laid_example_com_lamina_lamina_ErrTxDone {H : Type} : DataW H := .iface "*errors.errorString" (.ptr (.agg [.lit (.string [108, 97, 109, 105, 110, 97, 58, 32, 116, 114, 97, 110, 115, 97, 99, 116, 105, 111, 110, 32, 104, 97, 115, 32, 97, 108, 114, 101, 97, 100, 121, 32, 98, 101, 101, 110, 32, 99, 111, 109, 109, 105, 116, 116, 101, 100, 32, 111, 114, 32, 114, 111, 108, 108, 101, 100, 32, 98, 97, 99, 107])]))

/-- 'lamina.LawS0296AInt32': WHATEVER THE INPUT: true; the input reads as it did. -/
def lawS0296AInt32Spec : ChangeSpec := { name := "lawS0296AInt32", fn := fun _ => fun
  | [d] => { results := [.lit (.bool true)], args := [d] }
  | _ => none }
def lawS0296AInt32Row : OpenClaim := { program := "ybulkfckfmt", sum := "7254f21e964714d932a73048c1032aa568f3e2d194a9075175045397b8dd4033", func := "example.com/lamina/lamina.LawS0296AInt32", spec := "lawS0296AInt32", stops := ["fmt.Sprintf, its operands' methods called", "fmt.errorf"], inPlace := ["fmt.Sprintf"], unfollowed := true, recurses := true, apart := false }
/-- NO THEOREM (fmt's text is open here; it may be false): for the released tool's asking of the row's closed facts alone. THE STATEMENT IS 'LawS0296AInt32ToldSaid' (YbulkfckFmtCards.lean). -/
def LawS0296AInt32FormAsk : Prop := lawS0296AInt32Row.holds Ybaf.pinned (OpenSpec.ofChange lawS0296AInt32Spec)

/-- ITS FALSE NEIGHBOUR: 'it returns false'. Refute it at one input. -/
def lawS0296AInt32Wrong : ChangeSpec := { name := "lawS0296AInt32", fn := fun _ => fun
  | [d] => { results := [.lit (.bool false)], args := [d] }
  | _ => none }
def LawS0296AInt32WrongFormAsk : Prop := lawS0296AInt32Row.holds Ybaf.pinned (OpenSpec.ofChange lawS0296AInt32Wrong)

/-- 'lamina.LawS0296ABools': WHATEVER THE INPUT: true; the input reads as it did. -/
def lawS0296ABoolsSpec : ChangeSpec := { name := "lawS0296ABools", fn := fun _ => fun
  | [d] => { results := [.lit (.bool true)], args := [d] }
  | _ => none }
def lawS0296ABoolsRow : OpenClaim := { program := "ybulkfckfmt", sum := "7254f21e964714d932a73048c1032aa568f3e2d194a9075175045397b8dd4033", func := "example.com/lamina/lamina.LawS0296ABools", spec := "lawS0296ABools", stops := ["fmt.Sprintf, its operands' methods called", "fmt.errorf"], inPlace := ["fmt.Sprintf"], unfollowed := true, recurses := true, apart := false }
/-- NO THEOREM (fmt's text is open here; it may be false): for the released tool's asking of the row's closed facts alone. THE STATEMENT IS 'LawS0296ABoolsToldSaid' (YbulkfckFmtCards.lean). -/
def LawS0296ABoolsFormAsk : Prop := lawS0296ABoolsRow.holds Ybaf.pinned (OpenSpec.ofChange lawS0296ABoolsSpec)

/-- ITS FALSE NEIGHBOUR: 'it returns false'. Refute it at one input. -/
def lawS0296ABoolsWrong : ChangeSpec := { name := "lawS0296ABools", fn := fun _ => fun
  | [d] => { results := [.lit (.bool false)], args := [d] }
  | _ => none }
def LawS0296ABoolsWrongFormAsk : Prop := lawS0296ABoolsRow.holds Ybaf.pinned (OpenSpec.ofChange lawS0296ABoolsWrong)

/-- 'lamina.LawS0296BClass': WHATEVER THE INPUT: true; the input reads as it did. -/
def lawS0296BClassSpec : ChangeSpec := { name := "lawS0296BClass", vars := ["example.com/lamina/lamina.ErrTxDone"], fn := fun _ => fun
  | [d1, d2, d3, d4, g1] => { results := [.lit (.bool true)], args := [d1, d2, d3, d4], vars := [g1] }
  | _ => none }
def lawS0296BClassRow : OpenClaim := { program := "ybulkfckfmt", sum := "7254f21e964714d932a73048c1032aa568f3e2d194a9075175045397b8dd4033", func := "example.com/lamina/lamina.LawS0296BClass", spec := "lawS0296BClass", stops := ["fmt.Sprintf, its operands' methods called", "fmt.errorf"], inPlace := ["fmt.errorf", "internal/reflectlite.TypeOf"], unfollowed := true, recurses := true, named := ["example.com/lamina/lamina.ErrTxDone"], ifaces := true, apart := false, laid := [("example.com/lamina/lamina.ErrTxDone", laid_example_com_lamina_lamina_ErrTxDone)] }
/-- NO THEOREM (fmt's text is open here; it may be false): for the released tool's asking of the row's closed facts alone. THE STATEMENT IS 'LawS0296BClassToldSaid' (YbulkfckFmtCards.lean). -/
def LawS0296BClassFormAsk : Prop := lawS0296BClassRow.holds Ybaf.pinned (OpenSpec.ofChange lawS0296BClassSpec)

/-- ITS FALSE NEIGHBOUR: 'it returns false'. Refute it at one input. -/
def lawS0296BClassWrong : ChangeSpec := { name := "lawS0296BClass", vars := ["example.com/lamina/lamina.ErrTxDone"], fn := fun _ => fun
  | [d1, d2, d3, d4, g1] => { results := [.lit (.bool false)], args := [d1, d2, d3, d4], vars := [g1] }
  | _ => none }
def LawS0296BClassWrongFormAsk : Prop := lawS0296BClassRow.holds Ybaf.pinned (OpenSpec.ofChange lawS0296BClassWrong)

end Rows
end Go.Proofs.YbulkfckFmt
