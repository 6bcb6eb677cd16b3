/-
  No cell of these rows narrows 'for every input' (looked for: loops, veiled, ifaces, maps, wideKeys, modest, calm, conditions, laid).
  DERIVED. THE GIVEN ROWS OF THIS SEAT. 1 by the template 'for every input the law returns true; each argument reads behind the call as it read before'; 0 by the template 'total and deterministic' (their statements: YbulkfckTotals.lean).
  GIVEN WITH THE SEED: the statements are not yours to turn. If you find one false, say at which input.
  Laid BY PROGRAM, IN A SANDBOX (cutbox-rows.mjs): the forced cells as the released guide's own fill.sh prints them over the translation 55a33f9f0cb1f0f3… (all of the seat's roots in one cut). By AI agents, Wed Nov 11 2026. No macro, syntax, notation, axiom, sorry.
-/
import Derived.Test.YbulkfckChecked
import GoSem.Claim
import GoSem.ClaimJoined
import GoSem.ClaimMapViews
import Derived.JoinedTies
import Derived.KernelRfl
namespace Go.Proofs.Ybulkfck
/- THE CELL 'sum', in the pinned program and in every row, IS THE sha256 OF THE DUMP (.gsa) THAT YbulkfckProg.lean LOADS. Nothing in Lean hashes anything: it is a label: what it is worth is what the hold of that sum in a sandbox is worth. -/
noncomputable def Yba.pinned : Pinned := { name := "ybulkfck", sum := "55a33f9f0cb1f0f338fe823bd239b151481578fcff622d78cd4703ce6412337e", checked := Yba.checked }
namespace Rows
def none {H : Type} : Left H := { results := [], args := [] }

/-- 'query.LawS0296CShape': WHATEVER THE INPUT: true; the input reads as it did. -/
def lawS0296CShapeSpec : ChangeSpec := { name := "lawS0296CShape", fn := fun _ => fun
  | [d1, d2] => { results := [.lit (.bool true)], args := [d1, d2] }
  | _ => none }
def lawS0296CShapeRow : OpenClaim := { program := "ybulkfck", sum := "55a33f9f0cb1f0f338fe823bd239b151481578fcff622d78cd4703ce6412337e", func := "example.com/lamina/lamina/internal/query.LawS0296CShape", spec := "lawS0296CShape", apart := false }
def LawS0296CShapeSaid : Prop := lawS0296CShapeRow.holds Yba.pinned (OpenSpec.ofChange lawS0296CShapeSpec)

/-- ITS FALSE NEIGHBOUR: 'it returns false'. Refute it at one input. -/
def lawS0296CShapeWrong : ChangeSpec := { name := "lawS0296CShape", fn := fun _ => fun
  | [d1, d2] => { results := [.lit (.bool false)], args := [d1, d2] }
  | _ => none }
def LawS0296CShapeWrongFalsely : Prop := lawS0296CShapeRow.holds Yba.pinned (OpenSpec.ofChange lawS0296CShapeWrong)

end Rows
end Go.Proofs.Ybulkfck
