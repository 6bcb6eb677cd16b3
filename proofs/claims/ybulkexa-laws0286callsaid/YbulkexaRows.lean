/-
  No cell of these rows narrows 'for every input' (looked for: loops, veiled, ifaces, maps, wideKeys, modest, calm, conditions, laid).
  DERIVED. THE GIVEN ROWS OF THIS SEAT. 4 by the template 'for every input the law returns true; each argument reads behind the call as it read before'; 0 by the template 'total and deterministic' (their statements: YbulkexaTotals.lean).
  GIVEN WITH THE SEED: the statements are not yours to turn. If you find one false, say at which input.
  Laid BY PROGRAM, IN A SANDBOX (cutbox-rows.mjs): the forced cells as the released guide's own fill.sh prints them over the translation 34b00a2cd65bd726… (all of the seat's roots in one cut). By AI agents, Wed Nov 11 2026. No macro, syntax, notation, axiom, sorry.
-/
import Derived.Test.YbulkexaChecked
import GoSem.Claim
import GoSem.ClaimJoined
import GoSem.ClaimMapViews
import Derived.JoinedTies
import Derived.KernelRfl
namespace Go.Proofs.Ybulkexa
/- THE CELL 'sum', in the pinned program and in every row, IS THE sha256 OF THE DUMP (.gsa) THAT YbulkexaProg.lean LOADS. Nothing in Lean hashes anything: it is a label: what it is worth is what the hold of that sum in a sandbox is worth. -/
noncomputable def Yba.pinned : Pinned := { name := "ybulkexa", sum := "34b00a2cd65bd7267b9416a0c2c582a84870c42d1361557f4d21d351e0d4f8b1", checked := Yba.checked }
namespace Rows
def none {H : Type} : Left H := { results := [], args := [] }

/-- 'curve.LawS0286BExact': WHATEVER THE INPUT: true; the input reads as it did. -/
def lawS0286BExactSpec : ChangeSpec := { name := "lawS0286BExact", fn := fun _ => fun
  | [d1, d2, d3, d4] => { results := [.lit (.bool true)], args := [d1, d2, d3, d4] }
  | _ => none }
def lawS0286BExactRow : OpenClaim := { program := "ybulkexa", sum := "34b00a2cd65bd7267b9416a0c2c582a84870c42d1361557f4d21d351e0d4f8b1", func := "example.com/wildkey/wildkey/curve.LawS0286BExact", spec := "lawS0286BExact", apart := false }
def LawS0286BExactSaid : Prop := lawS0286BExactRow.holds Yba.pinned (OpenSpec.ofChange lawS0286BExactSpec)

/-- ITS FALSE NEIGHBOUR: 'it returns false'. Refute it at one input. -/
def lawS0286BExactWrong : ChangeSpec := { name := "lawS0286BExact", fn := fun _ => fun
  | [d1, d2, d3, d4] => { results := [.lit (.bool false)], args := [d1, d2, d3, d4] }
  | _ => none }
def LawS0286BExactWrongFalsely : Prop := lawS0286BExactRow.holds Yba.pinned (OpenSpec.ofChange lawS0286BExactWrong)

/-- 'curve.LawS0286BMember': WHATEVER THE INPUT: true; the input reads as it did. -/
def lawS0286BMemberSpec : ChangeSpec := { name := "lawS0286BMember", fn := fun _ => fun
  | [d1, d2, d3, d4, d5] => { results := [.lit (.bool true)], args := [d1, d2, d3, d4, d5] }
  | _ => none }
def lawS0286BMemberRow : OpenClaim := { program := "ybulkexa", sum := "34b00a2cd65bd7267b9416a0c2c582a84870c42d1361557f4d21d351e0d4f8b1", func := "example.com/wildkey/wildkey/curve.LawS0286BMember", spec := "lawS0286BMember", apart := false }
def LawS0286BMemberSaid : Prop := lawS0286BMemberRow.holds Yba.pinned (OpenSpec.ofChange lawS0286BMemberSpec)

/-- ITS FALSE NEIGHBOUR: 'it returns false'. Refute it at one input. -/
def lawS0286BMemberWrong : ChangeSpec := { name := "lawS0286BMember", fn := fun _ => fun
  | [d1, d2, d3, d4, d5] => { results := [.lit (.bool false)], args := [d1, d2, d3, d4, d5] }
  | _ => none }
def LawS0286BMemberWrongFalsely : Prop := lawS0286BMemberRow.holds Yba.pinned (OpenSpec.ofChange lawS0286BMemberWrong)

/-- 'node.LawS0286CAll': WHATEVER THE INPUT: true; the input reads as it did. -/
def lawS0286CAllSpec : ChangeSpec := { name := "lawS0286CAll", fn := fun _ => fun
  | [d1, d2, d3, d4, d5] => { results := [.lit (.bool true)], args := [d1, d2, d3, d4, d5] }
  | _ => none }
def lawS0286CAllRow : OpenClaim := { program := "ybulkexa", sum := "34b00a2cd65bd7267b9416a0c2c582a84870c42d1361557f4d21d351e0d4f8b1", func := "example.com/wildkey/wildkey/node.LawS0286CAll", spec := "lawS0286CAll", unfollowed := true, recurses := true, apart := false }
def LawS0286CAllSaid : Prop := lawS0286CAllRow.holds Yba.pinned (OpenSpec.ofChange lawS0286CAllSpec)

/-- ITS FALSE NEIGHBOUR: 'it returns false'. Refute it at one input. -/
def lawS0286CAllWrong : ChangeSpec := { name := "lawS0286CAll", fn := fun _ => fun
  | [d1, d2, d3, d4, d5] => { results := [.lit (.bool false)], args := [d1, d2, d3, d4, d5] }
  | _ => none }
def LawS0286CAllWrongFalsely : Prop := lawS0286CAllRow.holds Yba.pinned (OpenSpec.ofChange lawS0286CAllWrong)

/-- 'node.LawS0286CStop': WHATEVER THE INPUT: true; the input reads as it did. -/
def lawS0286CStopSpec : ChangeSpec := { name := "lawS0286CStop", fn := fun _ => fun
  | [d1, d2, d3, d4, d5, d6] => { results := [.lit (.bool true)], args := [d1, d2, d3, d4, d5, d6] }
  | _ => none }
def lawS0286CStopRow : OpenClaim := { program := "ybulkexa", sum := "34b00a2cd65bd7267b9416a0c2c582a84870c42d1361557f4d21d351e0d4f8b1", func := "example.com/wildkey/wildkey/node.LawS0286CStop", spec := "lawS0286CStop", unfollowed := true, recurses := true, apart := false }
def LawS0286CStopSaid : Prop := lawS0286CStopRow.holds Yba.pinned (OpenSpec.ofChange lawS0286CStopSpec)

/-- ITS FALSE NEIGHBOUR: 'it returns false'. Refute it at one input. -/
def lawS0286CStopWrong : ChangeSpec := { name := "lawS0286CStop", fn := fun _ => fun
  | [d1, d2, d3, d4, d5, d6] => { results := [.lit (.bool false)], args := [d1, d2, d3, d4, d5, d6] }
  | _ => none }
def LawS0286CStopWrongFalsely : Prop := lawS0286CStopRow.holds Yba.pinned (OpenSpec.ofChange lawS0286CStopWrong)

end Rows
end Go.Proofs.Ybulkexa
