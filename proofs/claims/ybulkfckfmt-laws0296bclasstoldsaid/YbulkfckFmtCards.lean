/-
  DERIVED. GIVEN WITH THE SEED: THE CARDS: each row of YbulkfckFmtRows.lean that lists a variable, with what it lists TIED to the program's text (the seventh form; the later family's looks); each row that meets fmt, with fmt's text TOLD by the authors' own Lean function (tested against real Go, not proved from fmt's source: count such statements apart). THE CARD IS WHAT COUNTS. Prove the row's statement (the work); the ties are given (YbulkfckFmtTie.lean); close each card by the builder's one call (the guide's Derived/Test/ToyasCard.lean, 'card_holds'). Laid BY PROGRAM, IN A SANDBOX (cutbox-door.mjs). By AI agents, Wed Nov 11 2026. No macro, syntax, notation, axiom, sorry.
-/
import Derived.Test.YbulkfckFmtRows
import GoSem.ClaimSeven
namespace Go.Proofs.YbulkfckFmt
namespace Rows

/-- THE TOLD CARD OF 'lamina.LawS0296AInt32'. -/
def lawS0296AInt32Card : Claim7 := { stood := { row := lawS0296AInt32Row, standIns := [], harness := (true, "c53042b4a323e4ea08d2604380eda6373e84b137e02374f13eeb93b48194342e"), looks := true }, told := true, goes := false }
def LawS0296AInt32ToldSaid : Prop := Claim7.holds Ybaf.pinned (.plain (OpenSpec.ofChange lawS0296AInt32Spec)) lawS0296AInt32Card
/-- ITS FALSE NEIGHBOUR. Refute it at one input. -/
def LawS0296AInt32ToldWrongFalsely : Prop := Claim7.holds Ybaf.pinned (.plain (OpenSpec.ofChange lawS0296AInt32Wrong)) lawS0296AInt32Card

/-- THE TOLD CARD OF 'lamina.LawS0296ABools'. -/
def lawS0296ABoolsCard : Claim7 := { stood := { row := lawS0296ABoolsRow, standIns := [], harness := (true, "c53042b4a323e4ea08d2604380eda6373e84b137e02374f13eeb93b48194342e"), looks := true }, told := true, goes := false }
def LawS0296ABoolsToldSaid : Prop := Claim7.holds Ybaf.pinned (.plain (OpenSpec.ofChange lawS0296ABoolsSpec)) lawS0296ABoolsCard
/-- ITS FALSE NEIGHBOUR. Refute it at one input. -/
def LawS0296ABoolsToldWrongFalsely : Prop := Claim7.holds Ybaf.pinned (.plain (OpenSpec.ofChange lawS0296ABoolsWrong)) lawS0296ABoolsCard

/-- THE TOLD AND TIED CARD OF 'lamina.LawS0296BClass'. -/
def lawS0296BClassCard : Claim7 := { stood := { row := lawS0296BClassRow, standIns := [], harness := (true, "c53042b4a323e4ea08d2604380eda6373e84b137e02374f13eeb93b48194342e"), looks := true }, told := true, laidByText := true, laidKinds := [.sentinel], laidTests := true, laidLooks := .later, goes := false }
def LawS0296BClassToldSaid : Prop := Claim7.holds Ybaf.pinned (.plain (OpenSpec.ofChange lawS0296BClassSpec)) lawS0296BClassCard
/-- ITS FALSE NEIGHBOUR. Refute it at one input. -/
def LawS0296BClassToldWrongFalsely : Prop := Claim7.holds Ybaf.pinned (.plain (OpenSpec.ofChange lawS0296BClassWrong)) lawS0296BClassCard
end Rows
end Go.Proofs.YbulkfckFmt
