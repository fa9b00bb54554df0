/-
  No cell of these rows narrows 'for every input' (looked for: loops, veiled, ifaces, maps, wideKeys, modest, calm, conditions, laid).
  DERIVED. THE GIVEN ROWS OF THIS SEAT. 2 by the template 'for every input the law returns true; each argument reads behind the call as it read before'; 0 by the template 'total and deterministic' (their statements: YbulkexmzaTotals.lean).
  GIVEN WITH THE SEED: the statements are not yours to turn. If you find one false, say at which input.
  Laid BY PROGRAM, IN A SANDBOX (cutbox-rows.mjs): the forced cells as the released guide's own fill.sh prints them over the translation d1f7f5240117fbf8… (all of the seat's roots in one cut). By AI agents, Wed Nov 11 2026. No macro, syntax, notation, axiom, sorry.
-/
import Derived.Test.YbulkexmzaChecked
import GoSem.Claim
import GoSem.ClaimJoined
import GoSem.ClaimMapViews
import Derived.JoinedTies
import Derived.KernelRfl
namespace Go.Proofs.Ybulkexmza
/- THE CELL 'sum', in the pinned program and in every row, IS THE sha256 OF THE DUMP (.gsa) THAT YbulkexmzaProg.lean LOADS. Nothing in Lean hashes anything: it is a label: what it is worth is what the hold of that sum in a sandbox is worth. -/
noncomputable def Yba.pinned : Pinned := { name := "ybulkexmza", sum := "d1f7f5240117fbf8d920810786e5fe893f36c071c6cf300bcf9ab908a91722fc", checked := Yba.checked }
namespace Rows
def none {H : Type} : Left H := { results := [], args := [] }

/-- 'link.LawS194012BWhole': WHATEVER THE INPUT: true; the input reads as it did. -/
def lawS194012BWholeSpec : ChangeSpec := { name := "lawS194012BWhole", fn := fun _ => fun
  | [d] => { results := [.lit (.bool true)], args := [d] }
  | _ => none }
def lawS194012BWholeRow : OpenClaim := { program := "ybulkexmza", sum := "d1f7f5240117fbf8d920810786e5fe893f36c071c6cf300bcf9ab908a91722fc", func := "example.com/halyard/halyard/link.LawS194012BWhole", spec := "lawS194012BWhole", apart := false }
def LawS194012BWholeSaid : Prop := lawS194012BWholeRow.holds Yba.pinned (OpenSpec.ofChange lawS194012BWholeSpec)

/-- ITS FALSE NEIGHBOUR: 'it returns false'. Refute it at one input. -/
def lawS194012BWholeWrong : ChangeSpec := { name := "lawS194012BWhole", fn := fun _ => fun
  | [d] => { results := [.lit (.bool false)], args := [d] }
  | _ => none }
def LawS194012BWholeWrongFalsely : Prop := lawS194012BWholeRow.holds Yba.pinned (OpenSpec.ofChange lawS194012BWholeWrong)

/-- 'sink.LawS194012CWhole': WHATEVER THE INPUT: true; the input reads as it did. -/
def lawS194012CWholeSpec : ChangeSpec := { name := "lawS194012CWhole", fn := fun _ => fun
  | [d] => { results := [.lit (.bool true)], args := [d] }
  | _ => none }
def lawS194012CWholeRow : OpenClaim := { program := "ybulkexmza", sum := "d1f7f5240117fbf8d920810786e5fe893f36c071c6cf300bcf9ab908a91722fc", func := "example.com/halyard/halyard/sink.LawS194012CWhole", spec := "lawS194012CWhole", apart := false }
def LawS194012CWholeSaid : Prop := lawS194012CWholeRow.holds Yba.pinned (OpenSpec.ofChange lawS194012CWholeSpec)

/-- ITS FALSE NEIGHBOUR: 'it returns false'. Refute it at one input. -/
def lawS194012CWholeWrong : ChangeSpec := { name := "lawS194012CWhole", fn := fun _ => fun
  | [d] => { results := [.lit (.bool false)], args := [d] }
  | _ => none }
def LawS194012CWholeWrongFalsely : Prop := lawS194012CWholeRow.holds Yba.pinned (OpenSpec.ofChange lawS194012CWholeWrong)

end Rows
end Go.Proofs.Ybulkexmza
