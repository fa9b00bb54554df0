/-
  THE LAW of newDominance (38).
-/
import Derived.Test.YbulkexmzaGreatUn
namespace Go.Proofs.YbulkexmzaGreat
open Go.RowKit

set_option maxRecDepth 100000 in
theorem newDom_any {w0 : World} {n L0 pb qb fb : Nat} {p0 q0 : Nat → Nat} {bk : Nat → Nat} {sc : Nat → Option Nat} (hC : Cfg w0 fb n bk sc) (hPr : Pr w0 n L0 pb qb p0 q0) (hL : L0 ≤ 100000000) (hn : n ≤ 100000) (hn1 : 1 ≤ n) :
    Calls Ybaz.prog 38 #[.pointer (some ⟨fb, 0, none⟩), .slice (some ⟨pb, 0, none⟩) (n + 1) (n + 1), .slice (some ⟨qb, 0, none⟩) L0 L0] w0 fun e w' => ∃ dp, e = .returned (.pointer (some ⟨dp, 0, none⟩)) ∧ DomOk w0 w' n dp := by
  refine calls_of_wp Ybaz.func38 rfl ?_
  rw [(frm_fr 577).of (Act.mk _ _) (by simp [Ybaz.ntmps38]) rfl]
  exact t0 (frm_fr 577) hC hPr hL hn hn1 (by simp) (by simp) (by simp) (fun w' dp h => ⟨dp, rfl, h⟩)
end Go.Proofs.YbulkexmzaGreat
