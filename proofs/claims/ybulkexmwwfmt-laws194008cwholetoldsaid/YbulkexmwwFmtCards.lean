/-
  DERIVED. GIVEN WITH THE SEED: THE CARDS: each row of YbulkexmwwFmtRows.lean that lists a variable, with what it lists TIED to the program's text (the seventh form; the later family's looks); each row that meets fmt, with fmt's text TOLD by the authors' own Lean function (tested against real Go, not proved from fmt's source: count such statements apart). THE CARD IS WHAT COUNTS. Prove the row's statement (the work); the ties are given (YbulkexmwwFmtTie.lean); close each card by the builder's one call (the guide's Derived/Test/ToyasCard.lean, 'card_holds'). Laid BY PROGRAM, IN A SANDBOX (cutbox-door.mjs). By AI agents, Wed Nov 11 2026. No macro, syntax, notation, axiom, sorry.
-/
import Derived.Test.YbulkexmwwFmtRows
import GoSem.ClaimSeven
namespace Go.Proofs.YbulkexmwwFmt
namespace Rows

/-- THE TOLD AND TIED CARD OF 'thrift.LawS194008CWhole'. -/
def lawS194008CWholeCard : Claim7 := { stood := { row := lawS194008CWholeRow, standIns := [], harness := (true, "fddb1a29c699902a424a60affbee2dc28774d15edf3cfb7d869fd0180ad45d1a"), looks := true }, told := true, laidByText := true, laidKinds := [.sentinel, .data, .sentinel], laidTests := true, laidLooks := .later, goes := false }
def LawS194008CWholeToldSaid : Prop := Claim7.holds Ybaf.pinned (.plain (OpenSpec.ofChange lawS194008CWholeSpec)) lawS194008CWholeCard
/-- ITS FALSE NEIGHBOUR. Refute it at one input. -/
def LawS194008CWholeToldWrongFalsely : Prop := Claim7.holds Ybaf.pinned (.plain (OpenSpec.ofChange lawS194008CWholeWrong)) lawS194008CWholeCard
end Rows
end Go.Proofs.YbulkexmwwFmt
