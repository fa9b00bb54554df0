/-
  No cell of these rows narrows 'for every input' (looked for: loops, veiled, ifaces, maps, wideKeys, modest, calm, conditions, laid).
  DERIVED. THE GIVEN ROWS OF THIS SEAT. 1 by the template 'for every input the law returns true; each argument reads behind the call as it read before'; 0 by the template 'total and deterministic' (their statements: YbulkexmzaGreatTotals.lean).
  GIVEN WITH THE SEED: the statements are not yours to turn. If you find one false, say at which input.
  Laid BY PROGRAM, IN A SANDBOX (cutbox-rows.mjs): the forced cells as the released guide's own fill.sh prints them over the translation ee8bea86e1bca470… (all of the seat's roots in one cut). By AI agents, Wed Nov 11 2026. No macro, syntax, notation, axiom, sorry.
-/
import Derived.Test.YbulkexmzaGreatChecked
import GoSem.Claim
import GoSem.ClaimJoined
import GoSem.ClaimMapViews
import Derived.JoinedTies
import Derived.KernelRfl
namespace Go.Proofs.YbulkexmzaGreat
/- THE CELL 'sum', in the pinned program and in every row, IS THE sha256 OF THE DUMP (.gsa) THAT YbulkexmzaGreatProg.lean LOADS. Nothing in Lean hashes anything: it is a label: what it is worth is what the hold of that sum in a sandbox is worth. -/
noncomputable def Ybaz.pinned : Pinned := { name := "ybulkexmzagreat", sum := "ee8bea86e1bca470fd9d7f67da96772cc63becb8f73a35dd69e584af27509f2e", checked := Ybaz.checked }
namespace Rows
def none {H : Type} : Left H := { results := [], args := [] }

/-- 'sink.LawS194012APart': WHATEVER THE INPUT: true; the input reads as it did. -/
def lawS194012APartSpec : ChangeSpec := { name := "lawS194012APart", fn := fun _ => fun
  | [d1, d2, d3] => { results := [.lit (.bool true)], args := [d1, d2, d3] }
  | _ => none }
def lawS194012APartRow : OpenClaim := { program := "ybulkexmzagreat", sum := "ee8bea86e1bca470fd9d7f67da96772cc63becb8f73a35dd69e584af27509f2e", func := "example.com/halyard/halyard/sink.LawS194012APart", spec := "lawS194012APart", unfollowed := true, recurses := true, apart := false }
def LawS194012APartSaid : Prop := lawS194012APartRow.holds Ybaz.pinned (OpenSpec.ofChange lawS194012APartSpec)

/-- ITS FALSE NEIGHBOUR: 'it returns false'. Refute it at one input. -/
def lawS194012APartWrong : ChangeSpec := { name := "lawS194012APart", fn := fun _ => fun
  | [d1, d2, d3] => { results := [.lit (.bool false)], args := [d1, d2, d3] }
  | _ => none }
def LawS194012APartWrongFalsely : Prop := lawS194012APartRow.holds Ybaz.pinned (OpenSpec.ofChange lawS194012APartWrong)

end Rows
end Go.Proofs.YbulkexmzaGreat
