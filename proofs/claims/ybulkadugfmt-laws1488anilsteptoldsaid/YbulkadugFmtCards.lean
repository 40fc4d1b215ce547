/-
  DERIVED. GIVEN WITH THE SEED: THE CARDS: each row of YbulkadugFmtRows.lean that lists a variable, with what it lists TIED to the program's text (the seventh form; the later family's looks); each row that meets fmt, with fmt's text TOLD by the authors' own Lean function (tested against real Go, not proved from fmt's source: count such statements apart). THE CARD IS WHAT COUNTS. Prove the row's statement (the work); the ties are given (YbulkadugFmtTie.lean); close each card by the builder's one call (the guide's Derived/Test/ToyasCard.lean, 'card_holds'). Laid BY PROGRAM, IN A SANDBOX (cutbox-door.mjs). By AI agents, Wed Nov 11 2026. No macro, syntax, notation, axiom, sorry.
-/
import Derived.Test.YbulkadugFmtRows
import GoSem.ClaimSeven
namespace Go.Proofs.YbulkadugFmt
namespace Rows

/-- THE TOLD CARD OF 'rackwise.LawS1488ANilStep'. -/
def lawS1488ANilStepCard : Claim7 := { stood := { row := lawS1488ANilStepRow, standIns := [], harness := (true, "b62f19616e6b435ab9ff91aa601f15ae8c1585fe1341322f8a6e0e5a08da3341"), looks := false }, told := true, goes := false }
def LawS1488ANilStepToldSaid : Prop := Claim7.holds Ybaf.pinned (.plain (OpenSpec.ofChange lawS1488ANilStepSpec)) lawS1488ANilStepCard
/-- ITS FALSE NEIGHBOUR. Refute it at one input. -/
def LawS1488ANilStepToldWrongFalsely : Prop := Claim7.holds Ybaf.pinned (.plain (OpenSpec.ofChange lawS1488ANilStepWrong)) lawS1488ANilStepCard
end Rows
end Go.Proofs.YbulkadugFmt
