/-
  newDominance (38): from region 29 on (the predecessors in the tree's graph).
-/
import Derived.Test.YbulkexmzaGreatUi
namespace Go.Proofs.YbulkexmzaGreat
open Go.RowKit
attribute [local go_sem] fup_at

/-- What newDominance is given: where the predecessors of block b lie, and they. -/
structure Pr (w0 : World) (n L0 pb qb : Nat) (p0 q0 : Nat → Nat) : Prop where
  pc : ∀ i, i ≤ n → w0.cell? ⟨pb, i, none⟩ = some (.int .i64 (p0 i : Nat))
  qc : ∀ i, i < L0 → w0.cell? ⟨qb, i, none⟩ = some (.int .i64 (q0 i : Nat)) ∧ q0 i < n
  mono : ∀ b, b < n → p0 b ≤ p0 (b + 1)
  lim : ∀ b, b ≤ n → p0 b ≤ L0
theorem old_cell {w0 w : World} (hs : w0.Since w0.heap.size w) {a : Addr} {v : Value} (h : w0.cell? a = some v) : w.cell? a = some v := (hs.cell (World.block_lt_of_cell? _ _ h)).trans h

/-- num, vertex, parent, post. -/
structure Dv (E : Nat → Nat) (B : Nat → Lb) (n m : Nat) (pst : List Nat) : Prop where
  b0 : B 0 = bx 46 (.slice (some ⟨E 5, 0, none⟩) n n)
  b5 : B 5 = ints n (fun _ => 0) (fun _ => (m : Int))
  b1 : ∃ v c, B 1 = bx 46 v ∧ Sl E B 6 3 1 m c (qv n) v
  b2 : ∃ v c, B 2 = bx 46 v ∧ Sl E B 7 3 1 m c qp v
  b3 : ∃ v c, B 3 = bx 46 v ∧ Sl E B 8 3 1 pst.length c (ql pst) v
theorem Dv.congr {E E' : Nat → Nat} {B B' : Nat → Lb} {n m : Nat} {pst : List Nat} (h : Dv E B n m pst) (he : ∀ k, k < 10 → E' k = E k) (hb : ∀ k, k < 10 → B' k = B k) : Dv E' B' n m pst := by
  refine ⟨by rw [hb 0 (by omega), he 5 (by omega)]; exact h.b0, by rw [hb 5 (by omega)]; exact h.b5, ?_, ?_, ?_⟩
  · obtain ⟨v, c, h1, h2⟩ := h.b1
    exact ⟨v, c, by rw [hb 1 (by omega)]; exact h1, h2.congr (he 6 (by omega)) (hb 6 (by omega))⟩
  · obtain ⟨v, c, h1, h2⟩ := h.b2
    exact ⟨v, c, by rw [hb 2 (by omega)]; exact h1, h2.congr (he 7 (by omega)) (hb 7 (by omega))⟩
  · obtain ⟨v, c, h1, h2⟩ := h.b3
    exact ⟨v, c, by rw [hb 3 (by omega)]; exact h1, h2.congr (he 8 (by omega)) (hb 8 (by omega))⟩
def bools (n : Nat) : Lb := ⟨4, n, fun _ u => ∃ t : Bool, u = .bool t⟩

/-- While d.predFrom (14) and d.preds (15) are filled. -/
structure Dp (w0 w : World) (E : Nat → Nat) (B : Nat → Lb) (n m : Nat) (pst : List Nat) (D : Nat → Value) (pf : Nat → Nat) (le : Nat) : Prop where
  st : St w0 w 16 E B
  v : Dv E B n m pst
  b12 : B 12 = vals 130 21 D
  b13 : B 13 = bools n
  b14 : B 14 = arr (n + 1) (fun b => ((pf b : Nat) : Int))
  d0 : D 0 = .slice (some ⟨E 13, 0, none⟩) n n
  d5 : D 5 = .slice (some ⟨E 14, 0, none⟩) (n + 1) (n + 1)
  d6 : ∃ cap, D 6 = .slice (some ⟨E 15, 0, none⟩) le cap ∧ B 15 = gl 3 1 le cap (qn n) ∧ le ≤ cap ∧ cap ≤ maxLen
section
variable {w0 w : World} {E : Nat → Nat} {B : Nat → Lb} {n m le : Nat} {pst : List Nat} {D : Nat → Value} {pf : Nat → Nat}
theorem Dp.drew (h : Dp w0 w E B n m pst D pf le) : Dp w0 w.drew E B n m pst D pf le := ⟨h.st.drew, h.v, h.b12, h.b13, h.b14, h.d0, h.d5, h.d6⟩
theorem Dp.alloc (h : Dp w0 w E B n m pst D pf le) (o : Obj) : Dp w0 (w.alloc o) E B n m pst D pf le := ⟨h.st.alloc o, h.v, h.b12, h.b13, h.b14, h.d0, h.d5, h.d6⟩
theorem Dp.set (h : Dp w0 w E B n m pst D pf le) (i z : Nat) : ∃ B', Dp w0 (w.setCell ⟨E 14, i, none⟩ (.int .i64 (z : Nat))) E B' n m pst D (upd pf i z) le := by
  have hs := h.st.setArr (k := 14) (by omega) h.b14 i (z : Int)
  refine ⟨_, hs, h.v.congr (fun _ _ => rfl) (fun k hk => upd_other _ _ (by omega)), by rw [upd_other _ _ (by omega)]; exact h.b12, by rw [upd_other _ _ (by omega)]; exact h.b13, ?_, h.d0, h.d5, ?_⟩
  · rw [upd_same]
    congr 1
    funext j
    by_cases e : j = i
    · subst e; rw [upd_same, upd_same]
    · rw [upd_other _ _ e, upd_other _ _ e]
  · obtain ⟨c, h1, h2, h3⟩ := h.d6
    exact ⟨c, h1, by rw [upd_other _ _ (by omega)]; exact h2, h3⟩
theorem Dp.sl (h : Dp w0 w E B n m pst D pf le) : ∃ cap, Sl E B 15 3 1 le cap (qn n) (D 6) := by
  obtain ⟨c, h1, h2, h3, h4⟩ := h.d6
  exact ⟨c, .inr ⟨h1, h2, h3, h4⟩⟩
theorem Dp.app (h : Dp w0 w E B n m pst D pf le) {g cap' : Nat} {w' : World} (ha : Appd w0 w 16 E B 15 3 1 le (qn n) g cap' w') : ∃ E' B' D', (∀ k, k ≠ 15 → E' k = E k) ∧ Dp w0 (w'.setCell ⟨E 12, 6, none⟩ (.slice (some ⟨g, 0, none⟩) (le + 1) cap')) E' B' n m pst D' pf (le + 1) := by
  obtain ⟨hs, hl, _⟩ := ha
  have hs2 := hs.setVal (k := 12) (by omega) (by rw [upd_other _ _ (by omega)]; exact h.b12) 6 (.slice (some ⟨g, 0, none⟩) (le + 1) cap')
  rw [upd_other _ _ (by omega)] at hs2
  refine ⟨_, _, _, fun k hk => upd_other _ _ hk, hs2, h.v.congr (fun k hk => upd_other _ _ (by omega)) (fun k hk => by rw [upd_other _ _ (by omega), upd_other _ _ (by omega)]), upd_same _ _ _, ?_, ?_, ?_, ?_, ?_⟩
  · rw [upd_other _ _ (by omega), upd_other _ _ (by omega)]; exact h.b13
  · rw [upd_other _ _ (by omega), upd_other _ _ (by omega)]; exact h.b14
  · rw [upd_other _ _ (by omega), upd_other _ _ (by omega)]; exact h.d0
  · rw [upd_other _ _ (by omega), upd_other _ _ (by omega)]; exact h.d5
  · rcases hl with ⟨h1, _⟩ | ⟨_, h2, h3, h4⟩
    · cases h1
    · rw [upd_same, upd_same]
      exact ⟨cap', rfl, by rw [upd_other _ _ (by omega)]; exact h2, h3, h4⟩
end
end Go.Proofs.YbulkexmzaGreat
