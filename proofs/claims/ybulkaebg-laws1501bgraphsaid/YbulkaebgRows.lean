/-
  No cell of these rows narrows 'for every input' (looked for: loops, veiled, ifaces, maps, wideKeys, modest, calm, conditions, laid).
  DERIVED. THE GIVEN ROWS OF THIS SEAT. 1 by the template 'for every input the law returns true; each argument reads behind the call as it read before'; 0 by the template 'total and deterministic' (their statements: YbulkaebgTotals.lean).
  GIVEN WITH THE SEED: the statements are not yours to turn. If you find one false, say at which input.
  Laid BY PROGRAM, IN A SANDBOX (cutbox-rows.mjs): the forced cells as the released guide's own fill.sh prints them over the translation 80e4c960f682106a… (all of the seat's roots in one cut). By AI agents, Wed Nov 11 2026. No macro, syntax, notation, axiom, sorry.
-/
import Derived.Test.YbulkaebgChecked
import GoSem.Claim
import GoSem.ClaimJoined
import GoSem.ClaimMapViews
import Derived.JoinedTies
import Derived.KernelRfl
namespace Go.Proofs.Ybulkaebg
/- THE CELL 'sum', in the pinned program and in every row, IS THE sha256 OF THE DUMP (.gsa) THAT YbulkaebgProg.lean LOADS. Nothing in Lean hashes anything: it is a label: what it is worth is what the hold of that sum in a sandbox is worth. -/
noncomputable def Yba.pinned : Pinned := { name := "ybulkaebg", sum := "80e4c960f682106afc896eaadc8d8b2cb6e486ff41b811d5e0565cc6215c4c78", checked := Yba.checked }
namespace Rows
def none {H : Type} : Left H := { results := [], args := [] }

/-- 'anomagraph.LawS1501BGraph': WHATEVER THE INPUT: true; the input reads as it did. -/
def lawS1501BGraphSpec : ChangeSpec := { name := "lawS1501BGraph", fn := fun _ => fun
  | [d1, d2, d3] => { results := [.lit (.bool true)], args := [d1, d2, d3] }
  | _ => none }
def lawS1501BGraphRow : OpenClaim := { program := "ybulkaebg", sum := "80e4c960f682106afc896eaadc8d8b2cb6e486ff41b811d5e0565cc6215c4c78", func := "example.com/anomagraph/anomagraph.LawS1501BGraph", spec := "lawS1501BGraph", apart := false }
def LawS1501BGraphSaid : Prop := lawS1501BGraphRow.holds Yba.pinned (OpenSpec.ofChange lawS1501BGraphSpec)

/-- ITS FALSE NEIGHBOUR: 'it returns false'. Refute it at one input. -/
def lawS1501BGraphWrong : ChangeSpec := { name := "lawS1501BGraph", fn := fun _ => fun
  | [d1, d2, d3] => { results := [.lit (.bool false)], args := [d1, d2, d3] }
  | _ => none }
def LawS1501BGraphWrongFalsely : Prop := lawS1501BGraphRow.holds Yba.pinned (OpenSpec.ofChange lawS1501BGraphWrong)

end Rows
end Go.Proofs.Ybulkaebg
