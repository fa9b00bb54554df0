/-
  newDominance (38): the state of its last loop. Registers: 0 d, 1 firstChild, 2 nextSibling, 3 pre, 4 last, 5 depth, 6 preorder, 7 postorder, 8 tree.
-/
import Derived.Test.YbulkexmzaGreatFm
namespace Go.Proofs.YbulkexmzaGreat
open Go.RowKit

theorem St.far {w0 w : World} {K : Nat} {E : Nat → Nat} {B : Nat → Lb} (h : St w0 w K E B) (k j : Nat) (hk : k < K) (hj : j < K) (hne : k ≠ j) (i i' : Nat) (v : Value) : (w.setCell ⟨E k, i, none⟩ v).cell? ⟨E j, i', none⟩ = w.cell? ⟨E j, i', none⟩ :=
  World.cell?_setCell_other _ _ _ _ (fun e => hne (h.inj k j hk hj (by simpa using congrArg Addr.block e)))
def anyInts (n : Nat) : Lb := ⟨3, n, anyInt⟩
def le_ (n : Nat) (_ : Nat) (u : Value) : Prop := ∃ z : Nat, u = .int .i64 (z : Nat) ∧ z ≤ n

structure Tr (w0 w : World) (E : Nat → Nat) (B : Nat → Lb) (n : Nat) (fc nx : Nat → Int) (lp lq lt : Nat) (D : Nat → Value) (tv : Value) : Prop where
  st : St w0 w 9 E B
  b0 : B 0 = vals 130 21 D
  b1 : B 1 = arr (n + 1) fc
  b2 : B 2 = arr (n + 1) nx
  b3 : B 3 = ints (n + 1) (fun _ => 0) (fun _ => 1000000000000)
  b4 : B 4 = anyInts (n + 1)
  b5 : B 5 = anyInts (n + 1)
  d2 : D 2 = .slice (some ⟨E 5, 0, none⟩) (n + 1) (n + 1)
  d3 : D 3 = .slice (some ⟨E 3, 0, none⟩) (n + 1) (n + 1)
  d4 : D 4 = .slice (some ⟨E 4, 0, none⟩) (n + 1) (n + 1)
  d7 : ∃ cap, Sl E B 6 3 1 lp cap anyInt (D 7)
  d8 : ∃ cap, Sl E B 7 3 1 lq cap anyInt (D 8)
  tr : ∃ cap, Sl E B 8 3 1 lt cap (le_ n) tv

theorem Sl.congr {E E' : Nat → Nat} {B B' : Nat → Lb} {k : Nat} {e : TypeId} {size len cap : Nat} {q : Nat → Value → Prop} {v : Value} (h : Sl E B k e size len cap q v) (he : E' k = E k) (hb : B' k = B k) : Sl E' B' k e size len cap q v := by
  unfold Sl at *
  rw [he, hb]; exact h

section
variable {w0 w : World} {E : Nat → Nat} {B : Nat → Lb} {n lp lq lt : Nat} {fc nx : Nat → Int} {D : Nat → Value} {tv : Value}
theorem Tr.drew (h : Tr w0 w E B n fc nx lp lq lt D tv) : Tr w0 w.drew E B n fc nx lp lq lt D tv := ⟨h.st.drew, h.b0, h.b1, h.b2, h.b3, h.b4, h.b5, h.d2, h.d3, h.d4, h.d7, h.d8, h.tr⟩
theorem Tr.drewN (h : Tr w0 w E B n fc nx lp lq lt D tv) (k : Nat) : Tr w0 (w.drewN k) E B n fc nx lp lq lt D tv := ⟨h.st.drewN k, h.b0, h.b1, h.b2, h.b3, h.b4, h.b5, h.d2, h.d3, h.d4, h.d7, h.d8, h.tr⟩
theorem Tr.alloc (h : Tr w0 w E B n fc nx lp lq lt D tv) (o : Obj) : Tr w0 (w.alloc o) E B n fc nx lp lq lt D tv := ⟨h.st.alloc o, h.b0, h.b1, h.b2, h.b3, h.b4, h.b5, h.d2, h.d3, h.d4, h.d7, h.d8, h.tr⟩
/-- A row with a standing promise takes a number. -/
theorem Tr.put (h : Tr w0 w E B n fc nx lp lq lt D tv) (k : Nat) (hk : k < 9) {i : Nat} {v : Value} (hv : (B k).p i v) : Tr w0 (w.setCell ⟨E k, i, none⟩ v) E B n fc nx lp lq lt D tv :=
  ⟨h.st.put k hk hv, h.b0, h.b1, h.b2, h.b3, h.b4, h.b5, h.d2, h.d3, h.d4, h.d7, h.d8, h.tr⟩
/-- firstChild is set. -/
theorem Tr.first (h : Tr w0 w E B n fc nx lp lq lt D tv) (i : Nat) (z : Int) : ∃ B', Tr w0 (w.setCell ⟨E 1, i, none⟩ (.int .i64 z)) E B' n (upd fc i z) nx lp lq lt D tv := by
  have hs := h.st.setArr (k := 1) (by omega) h.b1 i z
  refine ⟨_, hs, ?_, ?_, ?_, ?_, ?_, ?_, h.d2, h.d3, h.d4, ?_, ?_, ?_⟩
  · rw [upd_other _ _ (by omega)]; exact h.b0
  · rw [upd_same]
  · rw [upd_other _ _ (by omega)]; exact h.b2
  · rw [upd_other _ _ (by omega)]; exact h.b3
  · rw [upd_other _ _ (by omega)]; exact h.b4
  · rw [upd_other _ _ (by omega)]; exact h.b5
  · obtain ⟨c, h7⟩ := h.d7; exact ⟨c, h7.congr rfl (upd_other _ _ (by omega))⟩
  · obtain ⟨c, h8⟩ := h.d8; exact ⟨c, h8.congr rfl (upd_other _ _ (by omega))⟩
  · obtain ⟨c, h8⟩ := h.tr; exact ⟨c, h8.congr rfl (upd_other _ _ (by omega))⟩
/-- .. an append to preorder, and its store. -/
theorem Tr.app6 (h : Tr w0 w E B n fc nx lp lq lt D tv) {g cap' : Nat} {w' : World} (ha : Appd w0 w 9 E B 6 3 1 lp anyInt g cap' w') : ∃ E' B' D', E' 0 = E 0 ∧ E' 1 = E 1 ∧ E' 2 = E 2 ∧ Tr w0 (w'.setCell ⟨E 0, 7, none⟩ (.slice (some ⟨g, 0, none⟩) (lp + 1) cap')) E' B' n fc nx (lp + 1) lq lt D' tv := by
  obtain ⟨hs, hl, _⟩ := ha
  have hs2 := hs.setVal (k := 0) (by omega) (by rw [upd_other _ _ (by omega)]; exact h.b0) 7 (.slice (some ⟨g, 0, none⟩) (lp + 1) cap')
  rw [upd_other _ _ (by omega)] at hs2
  refine ⟨_, _, _, upd_other _ _ (by omega), upd_other _ _ (by omega), upd_other _ _ (by omega), hs2, upd_same _ _ _, ?_, ?_, ?_, ?_, ?_, ?_, ?_, ?_, ?_, ?_, ?_⟩
  · rw [upd_other _ _ (by omega), upd_other _ _ (by omega)]; exact h.b1
  · rw [upd_other _ _ (by omega), upd_other _ _ (by omega)]; exact h.b2
  · rw [upd_other _ _ (by omega), upd_other _ _ (by omega)]; exact h.b3
  · rw [upd_other _ _ (by omega), upd_other _ _ (by omega)]; exact h.b4
  · rw [upd_other _ _ (by omega), upd_other _ _ (by omega)]; exact h.b5
  · rw [upd_other _ _ (by omega), upd_other _ _ (by omega)]; exact h.d2
  · rw [upd_other _ _ (by omega), upd_other _ _ (by omega)]; exact h.d3
  · rw [upd_other _ _ (by omega), upd_other _ _ (by omega)]; exact h.d4
  · rw [upd_same]; exact ⟨cap', hl.congr rfl (upd_other _ _ (by omega))⟩
  · obtain ⟨c, h8⟩ := h.d8
    rw [upd_other _ _ (by omega)]
    exact ⟨c, h8.congr (upd_other _ _ (by omega)) (by rw [upd_other _ _ (by omega), upd_other _ _ (by omega)])⟩
  · obtain ⟨c, h8⟩ := h.tr
    exact ⟨c, h8.congr (upd_other _ _ (by omega)) (by rw [upd_other _ _ (by omega), upd_other _ _ (by omega)])⟩
/-- .. to postorder. -/
theorem Tr.app7 (h : Tr w0 w E B n fc nx lp lq lt D tv) {g cap' : Nat} {w' : World} (ha : Appd w0 w 9 E B 7 3 1 lq anyInt g cap' w') : ∃ E' B' D', E' 0 = E 0 ∧ E' 1 = E 1 ∧ E' 2 = E 2 ∧ Tr w0 (w'.setCell ⟨E 0, 8, none⟩ (.slice (some ⟨g, 0, none⟩) (lq + 1) cap')) E' B' n fc nx lp (lq + 1) lt D' tv := by
  obtain ⟨hs, hl, _⟩ := ha
  have hs2 := hs.setVal (k := 0) (by omega) (by rw [upd_other _ _ (by omega)]; exact h.b0) 8 (.slice (some ⟨g, 0, none⟩) (lq + 1) cap')
  rw [upd_other _ _ (by omega)] at hs2
  refine ⟨_, _, _, upd_other _ _ (by omega), upd_other _ _ (by omega), upd_other _ _ (by omega), hs2, upd_same _ _ _, ?_, ?_, ?_, ?_, ?_, ?_, ?_, ?_, ?_, ?_, ?_⟩
  · rw [upd_other _ _ (by omega), upd_other _ _ (by omega)]; exact h.b1
  · rw [upd_other _ _ (by omega), upd_other _ _ (by omega)]; exact h.b2
  · rw [upd_other _ _ (by omega), upd_other _ _ (by omega)]; exact h.b3
  · rw [upd_other _ _ (by omega), upd_other _ _ (by omega)]; exact h.b4
  · rw [upd_other _ _ (by omega), upd_other _ _ (by omega)]; exact h.b5
  · rw [upd_other _ _ (by omega), upd_other _ _ (by omega)]; exact h.d2
  · rw [upd_other _ _ (by omega), upd_other _ _ (by omega)]; exact h.d3
  · rw [upd_other _ _ (by omega), upd_other _ _ (by omega)]; exact h.d4
  · obtain ⟨c, h8⟩ := h.d7
    rw [upd_other _ _ (by omega)]
    exact ⟨c, h8.congr (upd_other _ _ (by omega)) (by rw [upd_other _ _ (by omega), upd_other _ _ (by omega)])⟩
  · rw [upd_same]; exact ⟨cap', hl.congr rfl (upd_other _ _ (by omega))⟩
  · obtain ⟨c, h8⟩ := h.tr
    exact ⟨c, h8.congr (upd_other _ _ (by omega)) (by rw [upd_other _ _ (by omega), upd_other _ _ (by omega)])⟩
/-- .. to tree. -/
theorem Tr.push (h : Tr w0 w E B n fc nx lp lq lt D tv) {g cap' : Nat} {w' : World} (ha : Appd w0 w 9 E B 8 3 1 lt (le_ n) g cap' w') : ∃ E' B', E' 0 = E 0 ∧ E' 1 = E 1 ∧ E' 2 = E 2 ∧ Tr w0 w' E' B' n fc nx lp lq (lt + 1) D (.slice (some ⟨g, 0, none⟩) (lt + 1) cap') := by
  obtain ⟨hs, hl, _⟩ := ha
  refine ⟨_, _, upd_other _ _ (by omega), upd_other _ _ (by omega), upd_other _ _ (by omega), hs, ?_, ?_, ?_, ?_, ?_, ?_, ?_, ?_, ?_, ?_, ?_, ⟨cap', hl⟩⟩
  · rw [upd_other _ _ (by omega)]; exact h.b0
  · rw [upd_other _ _ (by omega)]; exact h.b1
  · rw [upd_other _ _ (by omega)]; exact h.b2
  · rw [upd_other _ _ (by omega)]; exact h.b3
  · rw [upd_other _ _ (by omega)]; exact h.b4
  · rw [upd_other _ _ (by omega)]; exact h.b5
  · rw [upd_other _ _ (by omega)]; exact h.d2
  · rw [upd_other _ _ (by omega)]; exact h.d3
  · rw [upd_other _ _ (by omega)]; exact h.d4
  · obtain ⟨c, h8⟩ := h.d7
    exact ⟨c, h8.congr (upd_other _ _ (by omega)) (upd_other _ _ (by omega))⟩
  · obtain ⟨c, h8⟩ := h.d8
    exact ⟨c, h8.congr (upd_other _ _ (by omega)) (upd_other _ _ (by omega))⟩
/-- tree loses its last. -/
theorem Tr.pop {a : Option Addr} {c : Nat} (h : Tr w0 w E B n fc nx lp lq (lt + 1) D (.slice a (lt + 1) c)) : ∃ B', Tr w0 w E B' n fc nx lp lq lt D (.slice a lt c) := by
  obtain ⟨c', h8⟩ := h.tr
  rcases h8 with ⟨h8, h0⟩ | ⟨hv, hb, hle, hmx⟩
  · cases h0
  cases hv
  have hs := h.st.wkn 8 (gl 3 1 lt c (le_ n)) (by rw [hb]; rfl) (by rw [hb]; rfl) (fun i v _ hv hi => by
    rw [hb] at hv
    exact hv (by omega))
  refine ⟨_, hs, ?_, ?_, ?_, ?_, ?_, ?_, h.d2, h.d3, h.d4, ?_, ?_, ⟨c, .inr ⟨rfl, upd_same _ _ _, by omega, hmx⟩⟩⟩
  · rw [upd_other _ _ (by omega)]; exact h.b0
  · rw [upd_other _ _ (by omega)]; exact h.b1
  · rw [upd_other _ _ (by omega)]; exact h.b2
  · rw [upd_other _ _ (by omega)]; exact h.b3
  · rw [upd_other _ _ (by omega)]; exact h.b4
  · rw [upd_other _ _ (by omega)]; exact h.b5
  · obtain ⟨c, h8⟩ := h.d7
    exact ⟨c, h8.congr rfl (upd_other _ _ (by omega))⟩
  · obtain ⟨c, h8⟩ := h.d8
    exact ⟨c, h8.congr rfl (upd_other _ _ (by omega))⟩
end

/-- What newDominance leaves: its struct at dp, with pre. -/
def DomOk (w0 w : World) (n dp : Nat) : Prop := w0.Since w0.heap.size w ∧ ∃ gp, w0.heap.size ≤ dp ∧ w0.heap.size ≤ gp ∧ w.cell? ⟨dp, 3, none⟩ = some (.slice (some ⟨gp, 0, none⟩) (n + 1) (n + 1)) ∧ RowOk w gp (ints (n + 1) (fun _ => 0) (fun _ => 1000000000000))
theorem Tr.dom {w0 w : World} {E : Nat → Nat} {B : Nat → Lb} {n lp lq lt : Nat} {fc nx : Nat → Int} {D : Nat → Value} {tv : Value} (h : Tr w0 w E B n fc nx lp lq lt D tv) : DomOk w0 w n (E 0) :=
  ⟨h.st.since, E 3, h.st.base 0 (by omega), h.st.base 3 (by omega), by rw [← h.d3]; exact h.st.valAt (k := 0) (by omega) h.b0 (by omega), by have := h.st.row 3 (by omega); rwa [h.b3] at this⟩

/-- Sum of a function over the first n numbers. -/
def sm (f : Nat → Nat) : Nat → Nat
  | 0 => 0
  | n + 1 => sm f n + f n
theorem sm_upd (f : Nat → Nat) {b n : Nat} (hb : b < n) (z : Nat) : sm (upd f b z) n + f b = sm f n + z := by
  have low : ∀ j, j ≤ b → sm (upd f b z) j = sm f j := fun j hj => by
    induction j with
    | zero => rfl
    | succ j ih => simp only [sm]; rw [ih (by omega), upd_other _ _ (by omega)]
  induction n with
  | zero => omega
  | succ n ih =>
    simp only [sm]
    by_cases e : b = n
    · subst e; rw [low b (Nat.le_refl _), upd_same]; omega
    · rw [upd_other _ _ (by omega)]
      have := ih (by omega)
      omega
theorem sm_le (f : Nat → Nat) (c : Nat) : ∀ n, (∀ i, i < n → f i ≤ c) → sm f n ≤ n * c
  | 0, _ => by simp [sm]
  | n + 1, h => by
    simp only [sm]
    have := sm_le f c n (fun i hi => h i (by omega))
    have := h n (by omega)
    rw [Nat.add_mul]; omega
end Go.Proofs.YbulkexmzaGreat
