/-
  No cell of these rows narrows 'for every input' (looked for: loops, veiled, ifaces, maps, wideKeys, modest, calm, conditions, laid).
  DERIVED. THE GIVEN ROWS OF THIS SEAT. 1 by the template 'for every input the law returns true; each argument reads behind the call as it read before'; 0 by the template 'total and deterministic' (their statements: YbulkadugFmtTotals.lean).
  GIVEN WITH THE SEED: the statements are not yours to turn. If you find one false, say at which input.
  Laid BY PROGRAM, IN A SANDBOX (cutbox-rows.mjs): the forced cells as the released guide's own fill.sh prints them over the translation e7df9eae86187f81… (all of the seat's roots in one cut). By AI agents, Wed Nov 11 2026. No macro, syntax, notation, axiom, sorry.
-/
import Derived.Test.YbulkadugFmtChecked
import GoSem.Claim
import GoSem.ClaimJoined
import GoSem.ClaimMapViews
import Derived.JoinedTies
import Derived.KernelRfl
namespace Go.Proofs.YbulkadugFmt
/- THE CELL 'sum', in the pinned program and in every row, IS THE sha256 OF THE DUMP (.gsa) THAT YbulkadugFmtProg.lean LOADS. Nothing in Lean hashes anything: it is a label: what it is worth is what the hold of that sum in a sandbox is worth. -/
noncomputable def Ybaf.pinned : Pinned := { name := "ybulkadugfmt", sum := "e7df9eae86187f81251aa78b8136a24b5d64e64410b596ce9e1e4211bea847e7", checked := Ybaf.checked }
namespace Rows
def none {H : Type} : Left H := { results := [], args := [] }

/-- 'rackwise.LawS1488ANilStep': WHATEVER THE INPUT: true; the input reads as it did. -/
def lawS1488ANilStepSpec : ChangeSpec := { name := "lawS1488ANilStep", fn := fun _ => fun
  | [d1, d2, d3, d4, d5, d6, d7, d8] => { results := [.lit (.bool true)], args := [d1, d2, d3, d4, d5, d6, d7, d8] }
  | _ => none }
def lawS1488ANilStepRow : OpenClaim := { program := "ybulkadugfmt", sum := "e7df9eae86187f81251aa78b8136a24b5d64e64410b596ce9e1e4211bea847e7", func := "example.com/rackwise/rackwise.LawS1488ANilStep", spec := "lawS1488ANilStep", stops := ["fmt.Sprintf"], inPlace := ["fmt.Sprintf", "slices.overlaps[int32]"], unfollowed := true, recurses := true, apart := false }
/-- NO THEOREM (fmt's text is open here; it may be false): for the released tool's asking of the row's closed facts alone. THE STATEMENT IS 'LawS1488ANilStepToldSaid' (YbulkadugFmtCards.lean). -/
def LawS1488ANilStepFormAsk : Prop := lawS1488ANilStepRow.holds Ybaf.pinned (OpenSpec.ofChange lawS1488ANilStepSpec)

/-- ITS FALSE NEIGHBOUR: 'it returns false'. Refute it at one input. -/
def lawS1488ANilStepWrong : ChangeSpec := { name := "lawS1488ANilStep", fn := fun _ => fun
  | [d1, d2, d3, d4, d5, d6, d7, d8] => { results := [.lit (.bool false)], args := [d1, d2, d3, d4, d5, d6, d7, d8] }
  | _ => none }
def LawS1488ANilStepWrongFormAsk : Prop := lawS1488ANilStepRow.holds Ybaf.pinned (OpenSpec.ofChange lawS1488ANilStepWrong)

end Rows
end Go.Proofs.YbulkadugFmt
