/-
  NARROWER THAN 'FOR EVERY INPUT', by the rows' own cells (each row's printed sentence says how): LawS194008CWhole: ifaces, laid.
  DERIVED. THE GIVEN ROWS OF THIS SEAT. 1 by the template 'for every input the law returns true; each argument reads behind the call as it read before'; 0 by the template 'total and deterministic' (their statements: YbulkexmwwFmtTotals.lean).
  GIVEN WITH THE SEED: the statements are not yours to turn. If you find one false, say at which input.
  Laid BY PROGRAM, IN A SANDBOX (cutbox-rows.mjs): the forced cells as the released guide's own fill.sh prints them over the translation 504088b9e34fae03… (all of the seat's roots in one cut). By AI agents, Wed Nov 11 2026. No macro, syntax, notation, axiom, sorry.
-/
import Derived.Test.YbulkexmwwFmtChecked
import GoSem.Claim
import GoSem.ClaimJoined
import GoSem.ClaimMapViews
import Derived.JoinedTies
import Derived.KernelRfl
namespace Go.Proofs.YbulkexmwwFmt
/- THE CELL 'sum', in the pinned program and in every row, IS THE sha256 OF THE DUMP (.gsa) THAT YbulkexmwwFmtProg.lean LOADS. Nothing in Lean hashes anything: it is a label: what it is worth is what the hold of that sum in a sandbox is worth. -/
noncomputable def Ybaf.pinned : Pinned := { name := "ybulkexmwwfmt", sum := "504088b9e34fae033525fb393c7966b589063a532d8d1b8b71a68fa29a524237", checked := Ybaf.checked }
namespace Rows
def none {H : Type} : Left H := { results := [], args := [] }

/- WHAT THE LISTED PACKAGE-LEVEL VARIABLES READ AS WHEN THE CALL BEGINS. Each datum BY PROGRAM (the guide's laid-datum.mjs) off the statement by which the dump's own 'gosem.cut.vars' lays the variable. In a bare row this is a premise. The card (YbulkexmwwFmtCards.lean) ties it to the program's text. -/
def laid_io_ErrUnexpectedEOF {H : Type} : DataW H := .iface "*errors.errorString" (.ptr (.agg [.lit (.string [117, 110, 101, 120, 112, 101, 99, 116, 101, 100, 32, 69, 79, 70])]))
def laid_example_com_sheaf_sheaf_internal_thrift_typeNames {H : Type} : DataW H := .agg [.lit (.string [115, 116, 111, 112]), .lit (.string [98, 111, 111, 108]), .lit (.string [98, 111, 111, 108]), .lit (.string [105, 56]), .lit (.string [105, 49, 54]), .lit (.string [105, 51, 50]), .lit (.string [105, 54, 52]), .lit (.string [100, 111, 117, 98, 108, 101]), .lit (.string [98, 105, 110, 97, 114, 121]), .lit (.string [108, 105, 115, 116]), .lit (.string [115, 101, 116]), .lit (.string [109, 97, 112]), .lit (.string [115, 116, 114, 117, 99, 116])]
def laid_example_com_sheaf_sheaf_internal_thrift_errLongVarint {H : Type} : DataW H := .iface "*errors.errorString" (.ptr (.agg [.lit (.string [97, 32, 118, 97, 114, 105, 110, 116, 32, 111, 102, 32, 109, 111, 114, 101, 32, 116, 104, 97, 110, 32, 54, 52, 32, 98, 105, 116, 115])]))

/-- 'thrift.LawS194008CWhole': WHATEVER THE INPUT: true; the input reads as it did. -/
def lawS194008CWholeSpec : ChangeSpec := { name := "lawS194008CWhole", vars := ["example.com/sheaf/sheaf/internal/thrift.errLongVarint", "example.com/sheaf/sheaf/internal/thrift.typeNames"], fn := fun _ => fun
  | [d1, d2, d3, d4, d5, g1, g2] => { results := [.lit (.bool true)], args := [d1, d2, d3, d4, d5], vars := [g1, g2] }
  | _ => none }
def lawS194008CWholeRow : OpenClaim := { program := "ybulkexmwwfmt", sum := "504088b9e34fae033525fb393c7966b589063a532d8d1b8b71a68fa29a524237", func := "example.com/sheaf/sheaf/internal/thrift.LawS194008CWhole", spec := "lawS194008CWhole", stops := ["fmt.errorf, its operands' methods called", "fmt.Sprintf, its operands' methods called"], inPlace := ["fmt.Sprintf", "fmt.errorf"], unfollowed := true, recurses := true, named := ["io.ErrUnexpectedEOF", "example.com/sheaf/sheaf/internal/thrift.errLongVarint", "example.com/sheaf/sheaf/internal/thrift.typeNames"], ifaces := true, apart := false, laid := [("io.ErrUnexpectedEOF", laid_io_ErrUnexpectedEOF), ("example.com/sheaf/sheaf/internal/thrift.typeNames", laid_example_com_sheaf_sheaf_internal_thrift_typeNames), ("example.com/sheaf/sheaf/internal/thrift.errLongVarint", laid_example_com_sheaf_sheaf_internal_thrift_errLongVarint)] }
/-- NO THEOREM (fmt's text is open here; it may be false): for the released tool's asking of the row's closed facts alone. THE STATEMENT IS 'LawS194008CWholeToldSaid' (YbulkexmwwFmtCards.lean). -/
def LawS194008CWholeFormAsk : Prop := lawS194008CWholeRow.holds Ybaf.pinned (OpenSpec.ofChange lawS194008CWholeSpec)

/-- ITS FALSE NEIGHBOUR: 'it returns false'. Refute it at one input. -/
def lawS194008CWholeWrong : ChangeSpec := { name := "lawS194008CWhole", vars := ["example.com/sheaf/sheaf/internal/thrift.errLongVarint", "example.com/sheaf/sheaf/internal/thrift.typeNames"], fn := fun _ => fun
  | [d1, d2, d3, d4, d5, g1, g2] => { results := [.lit (.bool false)], args := [d1, d2, d3, d4, d5], vars := [g1, g2] }
  | _ => none }
def LawS194008CWholeWrongFormAsk : Prop := lawS194008CWholeRow.holds Ybaf.pinned (OpenSpec.ofChange lawS194008CWholeWrong)

end Rows
end Go.Proofs.YbulkexmwwFmt
