/-
  Registers: more words. A row whose cells are known one by one; registers renamed; three new rows at once.
-/
import Derived.Test.YbulkexmzaGreatEw
import Derived.Test.YbulkexmzaGreatRp
namespace Go.Proofs.YbulkexmzaGreat
open Go.RowKit

def vals (t : TypeId) (n : Nat) (D : Nat → Value) : Lb := ⟨t, n, fun i u => u = D i⟩
section
variable {w0 w w' : World} {K : Nat} {E : Nat → Nat} {B : Nat → Lb}
theorem St.valAt (h : St w0 w K E B) {k : Nat} (hk : k < K) {t : TypeId} {n : Nat} {D : Nat → Value} (hb : B k = vals t n D) {i : Nat} (hi : i < n) : w.cell? ⟨E k, i, none⟩ = some (D i) := by
  obtain ⟨u, h1, h2⟩ := h.read k hk (i := i) (by rw [hb]; exact hi)
  rw [hb] at h2
  rw [h1]; exact congrArg some h2
theorem St.setVal (h : St w0 w K E B) {k : Nat} (hk : k < K) {t : TypeId} {n : Nat} {D : Nat → Value} (hb : B k = vals t n D) (i : Nat) (v : Value) : St w0 (w.setCell ⟨E k, i, none⟩ v) K E (upd B k (vals t n (upd D i v))) :=
  h.set k hk _ (by rw [hb]; rfl) (by rw [hb]; rfl) (by show v = _; rw [upd_same]) (fun j u hj _ hp => by
    rw [hb] at hp
    have hp' : u = D j := hp
    show u = _
    rw [hp', upd_other _ _ hj])
theorem St.setArr (h : St w0 w K E B) {k : Nat} (hk : k < K) {n : Nat} {f : Nat → Int} (hb : B k = YbulkexmzaGreat.arr n f) (i : Nat) (z : Int) : St w0 (w.setCell ⟨E k, i, none⟩ (.int .i64 z)) K E (upd B k (YbulkexmzaGreat.arr n (upd f i z))) :=
  h.set k hk _ (by rw [hb]; rfl) (by rw [hb]; rfl) (by show _ = _; rw [upd_same]) (fun j u hj _ hp => by
    rw [hb] at hp
    have hp' : u = .int .i64 (f j) := hp
    show u = _
    rw [hp', upd_other _ _ hj])
/-- Registers renamed. -/
theorem St.perm (h : St w0 w K E B) (K' : Nat) (σ : Nat → Nat) (hσ : ∀ k, k < K' → σ k < K) (hi : ∀ i, i < K' → ∀ j, j < K' → σ i = σ j → i = j) : St w0 w K' (fun k => E (σ k)) (fun k => B (σ k)) :=
  ⟨h.since, fun k hk => h.row _ (hσ k hk), fun k hk => h.base _ (hσ k hk), fun i j hi' hj' e => hi i hi' j hj' (h.inj _ _ (hσ i hi') (hσ j hj') e)⟩
/-- A callee has made a row. -/
theorem St.made (h : St w0 w K E B) (hs : w.Since w.heap.size w') {g : Nat} (hg : w.heap.size ≤ g) {lb : Lb} (hr : RowOk w' g lb) (k K' : Nat) (hK : K' = K ∧ k < K ∨ K' = K + 1 ∧ k = K) : St w0 w' K' (upd E k g) (upd B k lb) := by
  have hold : ∀ j, j < K' → j ≠ k → j < K := fun j hj hne => by omega
  have hlt : ∀ j, j < K → E j < w.heap.size := fun j hj => (h.row j hj).lt
  refine ⟨h.since.trans ⟨hs.os, hs.tape, hs.output, hs.size, fun i hi => hs.block i (Nat.lt_of_lt_of_le hi h.since.size)⟩, fun j hj => ?_, fun j hj => ?_, fun i j hi hj e => ?_⟩
  · by_cases e : j = k
    · subst e; rw [upd_same, upd_same]; exact hr
    · rw [upd_other _ _ e, upd_other _ _ e]
      exact (h.row j (hold j hj e)).of_block (hs.block _ (hlt j (hold j hj e)))
  · by_cases e : j = k
    · subst e; rw [upd_same]; exact Nat.le_trans h.since.size hg
    · rw [upd_other _ _ e]; exact h.base j (hold j hj e)
  · by_cases e1 : i = k
    · by_cases e2 : j = k
      · omega
      · subst e1
        rw [upd_same, upd_other _ _ e2] at e
        have := hlt j (hold j hj e2)
        omega
    · by_cases e2 : j = k
      · subst e2
        rw [upd_same, upd_other _ _ e1] at e
        have := hlt i (hold i hi e1)
        omega
      · rw [upd_other _ _ e1, upd_other _ _ e2] at e
        exact h.inj i j (hold i hi e1) (hold j hj e2) e
/-- A row made by make, its cells all one. -/
theorem rowOk_made (w : World) (z : Value) (n : Nat) (t : TypeId) : RowOk (w.alloc (.cells (madeCells #[z] n) t)) w.heap.size ⟨t, n, fun _ u => u = z⟩ := by
  refine ⟨madeCells #[z] n, Go.Deep.blk_alloc_new _ _, size_madeCells _ _, fun i v hv => ?_⟩
  obtain ⟨h1, h2⟩ := Array.getElem?_eq_some_iff.1 hv
  simp [madeCells, Nat.mod_one] at h2
  exact h2.symm
theorem alloc_since (w : World) (o : Obj) : w.Since w.heap.size (w.alloc o) := (World.Since.refl _ _).alloc (Nat.le_refl _) _
theorem St.make (h : St w0 w K E B) (z : Value) (n : Nat) (t : TypeId) (k K' : Nat) (hK : K' = K ∧ k < K ∨ K' = K + 1 ∧ k = K) : St w0 (w.alloc (.cells (madeCells #[z] n) t)) K' (upd E k w.heap.size) (upd B k ⟨t, n, fun _ u => u = z⟩) :=
  h.made (alloc_since _ _) (Nat.le_refl _) (rowOk_made _ _ _ _) k K' hK
end
end Go.Proofs.YbulkexmzaGreat
