/-
  No cell of these rows narrows 'for every input' (looked for: loops, veiled, ifaces, maps, wideKeys, modest, calm, conditions, laid).
  DERIVED. THE GIVEN ROWS OF THIS SEAT. 2 by the template 'for every input the law returns true; each argument reads behind the call as it read before'; 0 by the template 'total and deterministic' (their statements: YbulkadtsTotals.lean).
  GIVEN WITH THE SEED: the statements are not yours to turn. If you find one false, say at which input.
  Laid BY PROGRAM, IN A SANDBOX (cutbox-rows.mjs): the forced cells as the released guide's own fill.sh prints them over the translation 5cf162b920aee522… (all of the seat's roots in one cut). By AI agents, Wed Nov 11 2026. No macro, syntax, notation, axiom, sorry.
-/
import Derived.Test.YbulkadtsChecked
import GoSem.Claim
import GoSem.ClaimJoined
import GoSem.ClaimMapViews
import Derived.JoinedTies
import Derived.KernelRfl
namespace Go.Proofs.Ybulkadts
/- THE CELL 'sum', in the pinned program and in every row, IS THE sha256 OF THE DUMP (.gsa) THAT YbulkadtsProg.lean LOADS. Nothing in Lean hashes anything: it is a label: what it is worth is what the hold of that sum in a sandbox is worth. -/
noncomputable def Yba.pinned : Pinned := { name := "ybulkadts", sum := "5cf162b920aee52214e79f10bcdbeac35ecc4ea01f07a23fed353b7577d635ce", checked := Yba.checked }
namespace Rows
def none {H : Type} : Left H := { results := [], args := [] }

/-- 'cadenza.LawS1487AExact': WHATEVER THE INPUT: true; the input reads as it did. -/
def lawS1487AExactSpec : ChangeSpec := { name := "lawS1487AExact", fn := fun _ => fun
  | [d1, d2] => { results := [.lit (.bool true)], args := [d1, d2] }
  | _ => none }
def lawS1487AExactRow : OpenClaim := { program := "ybulkadts", sum := "5cf162b920aee52214e79f10bcdbeac35ecc4ea01f07a23fed353b7577d635ce", func := "example.com/cadenza/cadenza.LawS1487AExact", spec := "lawS1487AExact", apart := false }
def LawS1487AExactSaid : Prop := lawS1487AExactRow.holds Yba.pinned (OpenSpec.ofChange lawS1487AExactSpec)

/-- ITS FALSE NEIGHBOUR: 'it returns false'. Refute it at one input. -/
def lawS1487AExactWrong : ChangeSpec := { name := "lawS1487AExact", fn := fun _ => fun
  | [d1, d2] => { results := [.lit (.bool false)], args := [d1, d2] }
  | _ => none }
def LawS1487AExactWrongFalsely : Prop := lawS1487AExactRow.holds Yba.pinned (OpenSpec.ofChange lawS1487AExactWrong)

/-- 'cadenza.LawS1487AStep': WHATEVER THE INPUT: true; the input reads as it did. -/
def lawS1487AStepSpec : ChangeSpec := { name := "lawS1487AStep", fn := fun _ => fun
  | [d1, d2, d3] => { results := [.lit (.bool true)], args := [d1, d2, d3] }
  | _ => none }
def lawS1487AStepRow : OpenClaim := { program := "ybulkadts", sum := "5cf162b920aee52214e79f10bcdbeac35ecc4ea01f07a23fed353b7577d635ce", func := "example.com/cadenza/cadenza.LawS1487AStep", spec := "lawS1487AStep", apart := false }
def LawS1487AStepSaid : Prop := lawS1487AStepRow.holds Yba.pinned (OpenSpec.ofChange lawS1487AStepSpec)

/-- ITS FALSE NEIGHBOUR: 'it returns false'. Refute it at one input. -/
def lawS1487AStepWrong : ChangeSpec := { name := "lawS1487AStep", fn := fun _ => fun
  | [d1, d2, d3] => { results := [.lit (.bool false)], args := [d1, d2, d3] }
  | _ => none }
def LawS1487AStepWrongFalsely : Prop := lawS1487AStepRow.holds Yba.pinned (OpenSpec.ofChange lawS1487AStepWrong)

end Rows
end Go.Proofs.Ybulkadts
