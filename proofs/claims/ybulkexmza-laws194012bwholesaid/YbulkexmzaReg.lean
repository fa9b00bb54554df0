/-
  One region of a function's code; ends as the text does.
-/
import Derived.Test.YbulkexmzaBd
import Derived.BigRegion
namespace Go.Proofs.Ybulkexmza
open Go.RowKit Go.Maps

def regAt (k : Nat) : Code → Option Code
  | .region id o b => if Nat.beq id k = true then some (.region id o b) else none
  | .seq a b => match regAt k a with
    | some c => some c
    | none => regAt k b
  | .cond _ a b => match regAt k a with
    | some c => some c
    | none => regAt k b
  | .block _ c => regAt k c
  | .scope c => regAt k c
  | .loop c => regAt k c
  | _ => none

/-- Ends as the text does, in no other way. -/
def Norm (R : Act → World → Prop) : Exit → Act → World → Prop
  | .normal, a, w => R a w
  | _, _, _ => False
theorem wp_normal {P : Program} {c : Code} {Q : Exit → Act → World → Prop} {a : Act} {w : World} (h : c.wp P (Norm (Q .normal)) a w) : c.wp P Q a w :=
  wp_mono h (fun e a w hq => by cases e <;> first | exact hq | exact hq.elim)

end Go.Proofs.Ybulkexmza
