/-
  newDominance (38): the state of its main loop.
-/
import Derived.Test.YbulkexmzaGreatTz
namespace Go.Proofs.YbulkexmzaGreat
open Go.RowKit

/-- bucket: -1, or one of the numbers that are done (P and above). -/
def bk (P m : Nat) : Lb := ⟨3, m, fun _ u => ∃ z : Int, u = .int .i64 z ∧ (z = -1 ∨ ((P : Int) ≤ z ∧ z < m))⟩
/-- nextInBucket: of those that are done -1 or one behind. -/
def nb (P m : Nat) : Lb := ⟨3, m, fun i u => ∃ z : Int, u = .int .i64 z ∧ (P ≤ i → z = -1 ∨ ((i : Int) < z ∧ z < m))⟩
def qn (n : Nat) (_ : Nat) (u : Value) : Prop := ∃ p : Nat, u = .int .i64 (p : Nat) ∧ p < n

/-- Where the predecessors lie: from pf b on to pf (b + 1), of L. -/
structure Pf (n L : Nat) (pf : Nat → Nat) : Prop where
  mono : ∀ b, b < n → pf b ≤ pf (b + 1)
  lim : ∀ b, b ≤ n → pf b ≤ L

structure De (w0 w : World) (E : Nat → Nat) (B : Nat → Lb) (n m L cL : Nat) (pf : Nat → Nat) (pst : List Nat) (D : Nat → Value) (P : Nat) : Prop where
  ev : Ev w0 w E B m
  b0 : B 0 = bx 46 (.slice (some ⟨E 5, 0, none⟩) n n)
  b5 : B 5 = ints n (fun _ => 0) (fun _ => (m : Int))
  b1 : ∃ v c, B 1 = bx 46 v ∧ Sl E B 6 3 1 m c (qv n) v
  b2 : ∃ v c, B 2 = bx 46 v ∧ Sl E B 7 3 1 m c qp v
  b3 : ∃ v c, B 3 = bx 46 v ∧ Sl E B 8 3 1 pst.length c (ql pst) v
  b10 : B 10 = arr (n + 1) (fun b => ((pf b : Nat) : Int))
  b11 : B 11 = gl 3 1 L cL (qn n)
  b12 : B 12 = vals 130 21 D
  b22 : B 22 = ints m (fun _ => 0) (fun _ => (m : Int))
  b23 : B 23 = bk P m
  b24 : B 24 = nb P m
  d5 : D 5 = .slice (some ⟨E 10, 0, none⟩) (n + 1) (n + 1)
  d6 : D 6 = .slice (some ⟨E 11, 0, none⟩) L cL
  lc : L ≤ cL
section
variable {w0 w w' : World} {E E' : Nat → Nat} {B B' : Nat → Lb} {n m L cL P : Nat} {pf : Nat → Nat} {pst : List Nat} {D : Nat → Value}
theorem Ev.put (h : Ev w0 w E B m) (k : Nat) (hk : k < 25) {i : Nat} {v : Value} (hv : (B k).p i v) : Ev w0 (w.setCell ⟨E k, i, none⟩ v) E B m :=
  ⟨h.st.put k hk hv, h.b14, h.b15, h.b16, h.b17, h.b18, h.b19, h.b20⟩
theorem Ev.drew (h : Ev w0 w E B m) : Ev w0 w.drew E B m := ⟨h.st.drew, h.b14, h.b15, h.b16, h.b17, h.b18, h.b19, h.b20⟩
theorem De.put (h : De w0 w E B n m L cL pf pst D P) (k : Nat) (hk : k < 25) {i : Nat} {v : Value} (hv : (B k).p i v) : De w0 (w.setCell ⟨E k, i, none⟩ v) E B n m L cL pf pst D P :=
  ⟨h.ev.put k hk hv, h.b0, h.b5, h.b1, h.b2, h.b3, h.b10, h.b11, h.b12, h.b22, h.b23, h.b24, h.d5, h.d6, h.lc⟩
theorem De.drew (h : De w0 w E B n m L cL pf pst D P) : De w0 w.drew E B n m L cL pf pst D P :=
  ⟨h.ev.drew, h.b0, h.b5, h.b1, h.b2, h.b3, h.b10, h.b11, h.b12, h.b22, h.b23, h.b24, h.d5, h.d6, h.lc⟩
/-- Behind a call of eval. -/
theorem De.kev (h : De w0 w E B n m L cL pf pst D P) (hk : Kev E E' B B') (he : Ev w0 w' E' B' m) : De w0 w' E' B' n m L cL pf pst D P := by
  obtain ⟨ke, kb⟩ := hk
  have b : ∀ k, k < 17 → B' k = B k := fun k hk => kb k (by omega) (by omega)
  have e : ∀ k, k < 17 → E' k = E k := fun k hk => ke k (by omega)
  refine ⟨he, by rw [b 0 (by omega), e 5 (by omega)]; exact h.b0, by rw [b 5 (by omega)]; exact h.b5, ?_, ?_, ?_, by rw [b 10 (by omega)]; exact h.b10, by rw [b 11 (by omega)]; exact h.b11, by rw [b 12 (by omega)]; exact h.b12, by rw [kb 22 (by omega) (by omega)]; exact h.b22, by rw [kb 23 (by omega) (by omega)]; exact h.b23, by rw [kb 24 (by omega) (by omega)]; exact h.b24, by rw [e 10 (by omega)]; exact h.d5, by rw [e 11 (by omega)]; exact h.d6, h.lc⟩
  · obtain ⟨v, c, h1, h2⟩ := h.b1
    exact ⟨v, c, by rw [b 1 (by omega)]; exact h1, h2.congr (e 6 (by omega)) (b 6 (by omega))⟩
  · obtain ⟨v, c, h1, h2⟩ := h.b2
    exact ⟨v, c, by rw [b 2 (by omega)]; exact h1, h2.congr (e 7 (by omega)) (b 7 (by omega))⟩
  · obtain ⟨v, c, h1, h2⟩ := h.b3
    exact ⟨v, c, by rw [b 3 (by omega)]; exact h1, h2.congr (e 8 (by omega)) (b 8 (by omega))⟩
theorem Kev.refl (E : Nat → Nat) (B : Nat → Lb) : Kev E E B B := ⟨fun _ _ => rfl, fun _ _ _ => rfl⟩
theorem Kev.trans {E'' : Nat → Nat} {B'' : Nat → Lb} (h : Kev E E' B B') (k : Kev E' E'' B' B'') : Kev E E'' B B'' :=
  ⟨fun i hi => (k.1 i hi).trans (h.1 i hi), fun i h1 h2 => (k.2 i h1 h2).trans (h.2 i h1 h2)⟩
theorem De.dm (h : De w0 w E B n m L cL pf pst D P) : Dm w0 w E B n m pst D := ⟨h.ev.st, h.b1, h.b3, h.b12, h.ev.b14, h.ev.b18, h.b22⟩
/-- One cell of a row is known besides. -/
theorem RowOk.know {b : Nat} {lb : Lb} (h : RowOk w b lb) {i : Nat} {v0 : Value} (hc : w.cell? ⟨b, i, none⟩ = some v0) (lb' : Lb) (ht : lb'.t = lb.t) (hn : lb'.n = lb.n) (hp : ∀ j u, j < lb.n → lb.p j u → (j = i → u = v0) → lb'.p j u) : RowOk w b lb' := by
  obtain ⟨c, h1, h2, h3⟩ := h
  refine ⟨c, by rw [ht]; exact h1, by rw [hn]; exact h2, fun j u hj => ?_⟩
  have hlt := (Array.getElem?_eq_some_iff.1 hj).1
  refine hp j u (by omega) (h3 j u hj) ?_
  rintro rfl
  have hc2 : w.cell? ⟨b, j, none⟩ = c[j]? := by simp [World.cell?, h1]
  rw [hc2, hj] at hc
  exact Option.some.inj hc
theorem St.know {K : Nat} (h : St w0 w K E B) (k : Nat) (hk : k < K) {i : Nat} {v0 : Value} (hc : w.cell? ⟨E k, i, none⟩ = some v0) (lb' : Lb) (ht : lb'.t = (B k).t) (hn : lb'.n = (B k).n) (hp : ∀ j u, j < (B k).n → (B k).p j u → (j = i → u = v0) → lb'.p j u) : St w0 w K E (upd B k lb') :=
  ⟨h.since, fun j hj => by
    by_cases e : j = k
    · subst e; rw [upd_same]; exact (h.row j hj).know hc lb' ht hn hp
    · rw [upd_other _ _ e]; exact h.row j hj, h.base, h.inj⟩
/-- bucket's promise is weakened; nextInBucket's known at one place more. -/
theorem De.weak (h : De w0 w E B n m L cL pf pst D (P + 1)) : ∃ B', (∀ k, k ≠ 23 → B' k = B k) ∧ B' 23 = bk P m ∧ B' 24 = nb (P + 1) m ∧ Ev w0 w E B' m := by
  have hs := h.ev.st.wkn 23 (bk P m) (by rw [h.b23]; rfl) (by rw [h.b23]; rfl) (fun i v _ hv => by
    rw [h.b23] at hv
    obtain ⟨z, h1, h2⟩ := hv
    exact ⟨z, h1, by omega⟩)
  refine ⟨_, fun k hk => upd_other _ _ hk, upd_same _ _ _, ?_, ⟨hs, h.ev.b14, h.ev.b15, h.ev.b16, ?_, h.ev.b18, h.ev.b19, h.ev.b20⟩⟩
  · rw [upd_other _ _ (by omega)]; exact h.b24
  · obtain ⟨v, l, c, h1, h2⟩ := h.ev.b17
    exact ⟨v, l, c, h1, h2.congr rfl rfl⟩
end
end Go.Proofs.YbulkexmzaGreat
