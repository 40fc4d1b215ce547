/-
  No cell of these rows narrows 'for every input' (looked for: loops, veiled, ifaces, maps, wideKeys, modest, calm, conditions, laid).
  DERIVED. THE GIVEN ROWS OF THIS SEAT. 3 by the template 'for every input the law returns true; each argument reads behind the call as it read before'; 0 by the template 'total and deterministic' (their statements: YbulkadwyTotals.lean).
  GIVEN WITH THE SEED: the statements are not yours to turn. If you find one false, say at which input.
  Laid BY PROGRAM, IN A SANDBOX (cutbox-rows.mjs): the forced cells as the released guide's own fill.sh prints them over the translation 014c91ccb2fe8797… (all of the seat's roots in one cut). By AI agents, Wed Nov 11 2026. No macro, syntax, notation, axiom, sorry.
-/
import Derived.Test.YbulkadwyChecked
import GoSem.Claim
import GoSem.ClaimJoined
import GoSem.ClaimMapViews
import Derived.JoinedTies
import Derived.KernelRfl
namespace Go.Proofs.Ybulkadwy
/- THE CELL 'sum', in the pinned program and in every row, IS THE sha256 OF THE DUMP (.gsa) THAT YbulkadwyProg.lean LOADS. Nothing in Lean hashes anything: it is a label: what it is worth is what the hold of that sum in a sandbox is worth. -/
noncomputable def Yba.pinned : Pinned := { name := "ybulkadwy", sum := "014c91ccb2fe87971f98b0e3fda1b30bfb4f63ab54f4fefd6a5a05ebf5fcd47c", checked := Yba.checked }
namespace Rows
def none {H : Type} : Left H := { results := [], args := [] }

/-- 'blocks.LawS1493AOrder': WHATEVER THE INPUT: true; the input reads as it did. -/
def lawS1493AOrderSpec : ChangeSpec := { name := "lawS1493AOrder", fn := fun _ => fun
  | [d] => { results := [.lit (.bool true)], args := [d] }
  | _ => none }
def lawS1493AOrderRow : OpenClaim := { program := "ybulkadwy", sum := "014c91ccb2fe87971f98b0e3fda1b30bfb4f63ab54f4fefd6a5a05ebf5fcd47c", func := "example.com/ledgerline/ledgerline/blocks.LawS1493AOrder", spec := "lawS1493AOrder", unfollowed := true, recurses := true, apart := false }
def LawS1493AOrderSaid : Prop := lawS1493AOrderRow.holds Yba.pinned (OpenSpec.ofChange lawS1493AOrderSpec)

/-- ITS FALSE NEIGHBOUR: 'it returns false'. Refute it at one input. -/
def lawS1493AOrderWrong : ChangeSpec := { name := "lawS1493AOrder", fn := fun _ => fun
  | [d] => { results := [.lit (.bool false)], args := [d] }
  | _ => none }
def LawS1493AOrderWrongFalsely : Prop := lawS1493AOrderRow.holds Yba.pinned (OpenSpec.ofChange lawS1493AOrderWrong)

/-- 'blocks.LawS1493AStop': WHATEVER THE INPUT: true; the input reads as it did. -/
def lawS1493AStopSpec : ChangeSpec := { name := "lawS1493AStop", fn := fun _ => fun
  | [d1, d2] => { results := [.lit (.bool true)], args := [d1, d2] }
  | _ => none }
def lawS1493AStopRow : OpenClaim := { program := "ybulkadwy", sum := "014c91ccb2fe87971f98b0e3fda1b30bfb4f63ab54f4fefd6a5a05ebf5fcd47c", func := "example.com/ledgerline/ledgerline/blocks.LawS1493AStop", spec := "lawS1493AStop", unfollowed := true, recurses := true, apart := false }
def LawS1493AStopSaid : Prop := lawS1493AStopRow.holds Yba.pinned (OpenSpec.ofChange lawS1493AStopSpec)

/-- ITS FALSE NEIGHBOUR: 'it returns false'. Refute it at one input. -/
def lawS1493AStopWrong : ChangeSpec := { name := "lawS1493AStop", fn := fun _ => fun
  | [d1, d2] => { results := [.lit (.bool false)], args := [d1, d2] }
  | _ => none }
def LawS1493AStopWrongFalsely : Prop := lawS1493AStopRow.holds Yba.pinned (OpenSpec.ofChange lawS1493AStopWrong)

/-- 'blocks.LawS1493AClone': WHATEVER THE INPUT: true; the input reads as it did. -/
def lawS1493ACloneSpec : ChangeSpec := { name := "lawS1493AClone", fn := fun _ => fun
  | [d] => { results := [.lit (.bool true)], args := [d] }
  | _ => none }
def lawS1493ACloneRow : OpenClaim := { program := "ybulkadwy", sum := "014c91ccb2fe87971f98b0e3fda1b30bfb4f63ab54f4fefd6a5a05ebf5fcd47c", func := "example.com/ledgerline/ledgerline/blocks.LawS1493AClone", spec := "lawS1493AClone", unfollowed := true, recurses := true, apart := false }
def LawS1493ACloneSaid : Prop := lawS1493ACloneRow.holds Yba.pinned (OpenSpec.ofChange lawS1493ACloneSpec)

/-- ITS FALSE NEIGHBOUR: 'it returns false'. Refute it at one input. -/
def lawS1493ACloneWrong : ChangeSpec := { name := "lawS1493AClone", fn := fun _ => fun
  | [d] => { results := [.lit (.bool false)], args := [d] }
  | _ => none }
def LawS1493ACloneWrongFalsely : Prop := lawS1493ACloneRow.holds Yba.pinned (OpenSpec.ofChange lawS1493ACloneWrong)

end Rows
end Go.Proofs.Ybulkadwy
