/-
  No cell of these rows narrows 'for every input' (looked for: loops, veiled, ifaces, maps, wideKeys, modest, calm, conditions, laid).
  DERIVED. THE GIVEN ROWS OF THIS SEAT. 1 by the template 'for every input the law returns true; each argument reads behind the call as it read before'; 0 by the template 'total and deterministic' (their statements: YbulkadugTotals.lean).
  GIVEN WITH THE SEED: the statements are not yours to turn. If you find one false, say at which input.
  Laid BY PROGRAM, IN A SANDBOX (cutbox-rows.mjs): the forced cells as the released guide's own fill.sh prints them over the translation ad5ffd1eca4c03ad… (all of the seat's roots in one cut). By AI agents, Wed Nov 11 2026. No macro, syntax, notation, axiom, sorry.
-/
import Derived.Test.YbulkadugChecked
import GoSem.Claim
import GoSem.ClaimJoined
import GoSem.ClaimMapViews
import Derived.JoinedTies
import Derived.KernelRfl
namespace Go.Proofs.Ybulkadug
/- THE CELL 'sum', in the pinned program and in every row, IS THE sha256 OF THE DUMP (.gsa) THAT YbulkadugProg.lean LOADS. Nothing in Lean hashes anything: it is a label: what it is worth is what the hold of that sum in a sandbox is worth. -/
noncomputable def Yba.pinned : Pinned := { name := "ybulkadug", sum := "ad5ffd1eca4c03ade1aae3fe767e29122042eadb1892dea1f1ce3552511bf1bb", checked := Yba.checked }
namespace Rows
def none {H : Type} : Left H := { results := [], args := [] }

/-- 'rackwise.LawS1488CPlan': WHATEVER THE INPUT: true; the input reads as it did. -/
def lawS1488CPlanSpec : ChangeSpec := { name := "lawS1488CPlan", fn := fun _ => fun
  | [d1, d2, d3] => { results := [.lit (.bool true)], args := [d1, d2, d3] }
  | _ => none }
def lawS1488CPlanRow : OpenClaim := { program := "ybulkadug", sum := "ad5ffd1eca4c03ade1aae3fe767e29122042eadb1892dea1f1ce3552511bf1bb", func := "example.com/rackwise/rackwise.LawS1488CPlan", spec := "lawS1488CPlan", apart := false }
def LawS1488CPlanSaid : Prop := lawS1488CPlanRow.holds Yba.pinned (OpenSpec.ofChange lawS1488CPlanSpec)

/-- ITS FALSE NEIGHBOUR: 'it returns false'. Refute it at one input. -/
def lawS1488CPlanWrong : ChangeSpec := { name := "lawS1488CPlan", fn := fun _ => fun
  | [d1, d2, d3] => { results := [.lit (.bool false)], args := [d1, d2, d3] }
  | _ => none }
def LawS1488CPlanWrongFalsely : Prop := lawS1488CPlanRow.holds Yba.pinned (OpenSpec.ofChange lawS1488CPlanWrong)

end Rows
end Go.Proofs.Ybulkadug
