/-
  A FUNCTION's CODE FROM A REGION ON; small laws on rows.
-/
import Derived.Test.YbulkexmymEx
namespace Go.Proofs.Ybulkexmym
open Go.RowKit

def firstId : Code → Nat
  | .region id _ _ => id
  | .seq a _ => firstId a
  | .block _ c => firstId c
  | .scope c => firstId c
  | _ => 100000
/-- The code from the statement on whose first region is k. -/
def codeAt (k : Nat) : Code → Option Code
  | .seq a b => if Nat.beq (firstId a) k = true then some (.seq a b) else match codeAt k a with
    | some c => some c
    | none => codeAt k b
  | .block _ c => codeAt k c
  | .scope c => codeAt k c
  | _ => none

theorem rem_nat (z n : Nat) : Int.tmod (z : Int) (n : Int) = ((z % n : Nat) : Int) := by rw [Int.ofNat_tmod]

theorem Row.at {w : World} {L : Nat → Nat × Nat} {l : Nat × Nat} {B : Nat} {e : TypeId} {ad : Option Addr} {n c : Nat} {xs : List Value} (h : Row w L l B e (.slice ad n c) xs) (h0 : 0 < xs.length) :
    ∃ g, ad = some ⟨g, 0, none⟩ ∧ ∀ (j : Nat) (u : Value), xs[j]? = some u → w.cell? ⟨g, j, none⟩ = some u := by
  rcases h.form with ⟨_, q2⟩ | ⟨g, cap, q1, _⟩
  · rw [q2] at h0; simp at h0
  · simp only [Value.slice.injEq] at q1
    obtain ⟨rfl, rfl, rfl⟩ := q1
    refine ⟨g, rfl, fun j u hj => ?_⟩
    obtain ⟨hlt, rfl⟩ := List.getElem?_eq_some_iff.1 hj
    exact h.cell j hlt
theorem Row.at' {w : World} {L : Nat → Nat × Nat} {l : Nat × Nat} {B : Nat} {e : TypeId} {g n c : Nat} {xs : List Value} (h : Row w L l B e (.slice (some ⟨g, 0, none⟩) n c) xs) {j : Nat} {u : Value} (hj : xs[j]? = some u) : w.cell? ⟨g, j, none⟩ = some u := by
  obtain ⟨hlt, _⟩ := List.getElem?_eq_some_iff.1 hj
  obtain ⟨g', hg, hc⟩ := h.at (by omega)
  simp only [Option.some.injEq, Addr.mk.injEq, and_true] at hg
  subst hg
  exact hc j u hj
theorem sl_at (mv : Nat → Value) {n i : Nat} (h : i < n) : (sl mv n)[i]? = some (mv i) := by simp [sl, h]
theorem sl_at' (mv : Nat → Value) {n i : Nat} (h : i < n) (x : Value) : (sl mv n ++ [x])[i]? = some (mv i) := by
  rw [List.getElem?_append_left (by rw [sl_length]; exact h)]; exact sl_at mv h
end Go.Proofs.Ybulkexmym
