/-
  No cell of these rows narrows 'for every input' (looked for: loops, veiled, ifaces, maps, wideKeys, modest, calm, conditions, laid).
  DERIVED. THE GIVEN ROWS OF THIS SEAT. 1 by the template 'for every input the law returns true; each argument reads behind the call as it read before'; 0 by the template 'total and deterministic' (their statements: YbulkexmymTotals.lean).
  GIVEN WITH THE SEED: the statements are not yours to turn. If you find one false, say at which input.
  Laid BY PROGRAM, IN A SANDBOX (cutbox-rows.mjs): the forced cells as the released guide's own fill.sh prints them over the translation f21a7bbc5d71a019… (all of the seat's roots in one cut). By AI agents, Wed Nov 11 2026. No macro, syntax, notation, axiom, sorry.
-/
import Derived.Test.YbulkexmymChecked
import GoSem.Claim
import GoSem.ClaimJoined
import GoSem.ClaimMapViews
import Derived.JoinedTies
import Derived.KernelRfl
namespace Go.Proofs.Ybulkexmym
/- THE CELL 'sum', in the pinned program and in every row, IS THE sha256 OF THE DUMP (.gsa) THAT YbulkexmymProg.lean LOADS. Nothing in Lean hashes anything: it is a label: what it is worth is what the hold of that sum in a sandbox is worth. -/
noncomputable def Yba.pinned : Pinned := { name := "ybulkexmym", sum := "f21a7bbc5d71a019922a8deab02b7777c45fea9b573e6f4fd0b9e41bb775350d", checked := Yba.checked }
namespace Rows
def none {H : Type} : Left H := { results := [], args := [] }

/-- 'ligature.LawS194011CWhole': WHATEVER THE INPUT: true; the input reads as it did. -/
def lawS194011CWholeSpec : ChangeSpec := { name := "lawS194011CWhole", fn := fun _ => fun
  | [d1, d2, d3, d4] => { results := [.lit (.bool true)], args := [d1, d2, d3, d4] }
  | _ => none }
def lawS194011CWholeRow : OpenClaim := { program := "ybulkexmym", sum := "f21a7bbc5d71a019922a8deab02b7777c45fea9b573e6f4fd0b9e41bb775350d", func := "example.com/ligature/ligature.LawS194011CWhole", spec := "lawS194011CWhole", apart := false }
def LawS194011CWholeSaid : Prop := lawS194011CWholeRow.holds Yba.pinned (OpenSpec.ofChange lawS194011CWholeSpec)

/-- ITS FALSE NEIGHBOUR: 'it returns false'. Refute it at one input. -/
def lawS194011CWholeWrong : ChangeSpec := { name := "lawS194011CWhole", fn := fun _ => fun
  | [d1, d2, d3, d4] => { results := [.lit (.bool false)], args := [d1, d2, d3, d4] }
  | _ => none }
def LawS194011CWholeWrongFalsely : Prop := lawS194011CWholeRow.holds Yba.pinned (OpenSpec.ofChange lawS194011CWholeWrong)

end Rows
end Go.Proofs.Ybulkexmym
