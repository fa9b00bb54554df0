/-
  MEMORY OF THE CALL's OWN BY REGISTERS: register k (k < K) is a row of cells at block E k, of type (B k).t, with (B k).n cells, cell i meeting (B k).p i. No two registers lie in one block.
-/
import Derived.Test.YbulkexmzaGreatRows
import Derived.WalkKit
import Derived.WalkSpells
import Derived.WalkLawsBesides
import Derived.Deep.OwnRows
import Derived.Deep.Light
import Derived.Deep.LoopGhost
import Derived.BigQuiet
import Derived.StillTailTactics
namespace Go.Proofs.YbulkexmzaGreat
open Go.RowKit

/-- What is known of a row: its cells' type, their number, what each meets. -/
structure Lb where
  t : TypeId
  n : Nat
  p : Nat → Value → Prop

def upd {α : Type} (f : Nat → α) (k : Nat) (x : α) : Nat → α := fun j => if j = k then x else f j
theorem upd_same {α : Type} (f : Nat → α) (k : Nat) (x : α) : upd f k x k = x := by simp [upd]
theorem upd_other {α : Type} (f : Nat → α) {k j : Nat} (x : α) (h : j ≠ k) : upd f k x j = f j := by simp [upd, h]

/-- Block b of w is a row as lb says. -/
def RowOk (w : World) (b : Nat) (lb : Lb) : Prop :=
  ∃ c : Array Value, w.heap[b]? = some (.cells c lb.t (0, 0)) ∧ c.size = lb.n ∧ ∀ i v, c[i]? = some v → lb.p i v

theorem RowOk.lt {w : World} {b : Nat} {lb : Lb} (h : RowOk w b lb) : b < w.heap.size := by
  obtain ⟨c, hc, _⟩ := h
  exact (Array.getElem?_eq_some_iff.1 hc).1
theorem RowOk.cell {w : World} {b : Nat} {lb : Lb} (h : RowOk w b lb) {i : Nat} (hi : i < lb.n) : ∃ v, w.cell? ⟨b, i, none⟩ = some v ∧ lb.p i v := by
  obtain ⟨c, hc, hn, hp⟩ := h
  refine ⟨c[i]'(by omega), ?_, hp i _ (by simp [Array.getElem?_eq_getElem (show i < c.size by omega)])⟩
  simp [World.cell?, hc, show i < c.size by omega]
theorem RowOk.frozen {w : World} {b : Nat} {lb : Lb} (h : RowOk w b lb) (i : Nat) : w.frozen? ⟨b, i, none⟩ = false := by
  obtain ⟨c, hc, _⟩ := h
  simp [World.frozen?, hc]
theorem RowOk.of_block {w w' : World} {b : Nat} {lb : Lb} (h : RowOk w b lb) (e : w'.heap[b]? = w.heap[b]?) : RowOk w' b lb := by
  obtain ⟨c, hc, r⟩ := h
  exact ⟨c, by rw [e]; exact hc, r⟩
theorem RowOk.wkn {w : World} {b : Nat} {lb lb' : Lb} (h : RowOk w b lb) (ht : lb'.t = lb.t) (hn : lb'.n = lb.n) (hp : ∀ i v, i < lb.n → lb.p i v → lb'.p i v) : RowOk w b lb' := by
  obtain ⟨c, hc, hs, hq⟩ := h
  refine ⟨c, by rw [ht]; exact hc, by rw [hn]; exact hs, fun i v hi => hp i v ?_ (hq i v hi)⟩
  have := (Array.getElem?_eq_some_iff.1 hi).1
  omega
/-- A cell is set; what the row meets may turn with it. -/
theorem RowOk.set {w : World} {b : Nat} {lb : Lb} (h : RowOk w b lb) (lb' : Lb) (ht : lb'.t = lb.t) (hn : lb'.n = lb.n) {i : Nat} {v : Value} (hv : lb'.p i v) (ho : ∀ j u, j ≠ i → j < lb.n → lb.p j u → lb'.p j u) :
    RowOk (w.setCell ⟨b, i, none⟩ v) b lb' := by
  obtain ⟨c, hc, hs, hq⟩ := h
  refine ⟨c.setIfInBounds i v, ?_, by simp [hs, hn], fun j u hj => ?_⟩
  · simp [World.setCell, Array.getElem?_modify, hc, ht]
  · have hjs := (Array.getElem?_eq_some_iff.1 hj).1
    simp only [Array.size_setIfInBounds] at hjs
    by_cases e : j = i
    · subst e
      rw [Array.getElem?_setIfInBounds_self_of_lt hjs] at hj
      cases hj; exact hv
    · rw [Array.getElem?_setIfInBounds_ne (Ne.symm e)] at hj
      exact ho j u e (by omega) (hq j u hj)

structure St (w0 w : World) (K : Nat) (E : Nat → Nat) (B : Nat → Lb) : Prop where
  since : w0.Since w0.heap.size w
  row : ∀ k, k < K → RowOk w (E k) (B k)
  base : ∀ k, k < K → w0.heap.size ≤ E k
  inj : ∀ k j, k < K → j < K → E k = E j → k = j

section
variable {w0 w : World} {K : Nat} {E : Nat → Nat} {B : Nat → Lb}

theorem St.start (w : World) (E : Nat → Nat) (B : Nat → Lb) : St w w 0 E B :=
  ⟨.refl _ _, fun _ h => absurd h (Nat.not_lt_zero _), fun _ h => absurd h (Nat.not_lt_zero _), fun _ _ h => absurd h (Nat.not_lt_zero _)⟩
theorem St.drew (h : St w0 w K E B) : St w0 w.drew K E B := ⟨h.since.drew, fun k hk => (h.row k hk).of_block rfl, h.base, h.inj⟩
theorem St.drewN (h : St w0 w K E B) (n : Nat) : St w0 (w.drewN n) K E B := by
  induction n with
  | zero => exact h
  | succ n ih => exact ih.drew
theorem St.read (h : St w0 w K E B) (k : Nat) (hk : k < K) {i : Nat} (hi : i < (B k).n) : ∃ v, w.cell? ⟨E k, i, none⟩ = some v ∧ (B k).p i v := (h.row k hk).cell hi
theorem St.frz (h : St w0 w K E B) (k : Nat) (hk : k < K) (i : Nat) : w.frozen? ⟨E k, i, none⟩ = false := (h.row k hk).frozen i
/-- A cell of register k is set. -/
theorem St.set (h : St w0 w K E B) (k : Nat) (hk : k < K) (lb' : Lb) (ht : lb'.t = (B k).t) (hn : lb'.n = (B k).n) {i : Nat} {v : Value} (hv : lb'.p i v) (ho : ∀ j u, j ≠ i → j < (B k).n → (B k).p j u → lb'.p j u) :
    St w0 (w.setCell ⟨E k, i, none⟩ v) K E (upd B k lb') := by
  refine ⟨h.since.setCell (h.base k hk) _, fun j hj => ?_, h.base, h.inj⟩
  by_cases e : j = k
  · subst e; rw [upd_same]; exact (h.row j hj).set lb' ht hn hv ho
  · rw [upd_other _ _ e]
    exact (h.row j hj).of_block (Go.Deep.blk_setCell_other _ _ _ _ (fun e' => e (h.inj j k hj hk e')))
/-- .. what the row meets staying as it is. -/
theorem St.put (h : St w0 w K E B) (k : Nat) (hk : k < K) {i : Nat} {v : Value} (hv : (B k).p i v) : St w0 (w.setCell ⟨E k, i, none⟩ v) K E B := by
  have := h.set k hk (B k) rfl rfl hv (fun _ _ _ _ h => h)
  have e : upd B k (B k) = B := by funext j; by_cases hj : j = k <;> simp [upd, hj]
  rwa [e] at this
/-- A new block, for a new register or in the place of one. -/
theorem St.new (h : St w0 w K E B) (c : Array Value) (t : TypeId) (k K' : Nat) (hK : K' = K ∧ k < K ∨ K' = K + 1 ∧ k = K) (lb : Lb) (ht : lb.t = t) (hn : lb.n = c.size) (hp : ∀ i v, c[i]? = some v → lb.p i v) :
    St w0 (w.alloc (.cells c t)) K' (upd E k w.heap.size) (upd B k lb) := by
  have hold : ∀ j, j < K' → j ≠ k → j < K := fun j hj hne => by omega
  refine ⟨h.since.alloc h.since.size _, fun j hj => ?_, fun j hj => ?_, fun i j hi hj e => ?_⟩
  · by_cases e : j = k
    · subst e
      rw [upd_same, upd_same]
      exact ⟨c, by rw [ht]; exact Go.Deep.blk_alloc_new _ _, hn.symm, hp⟩
    · rw [upd_other _ _ e, upd_other _ _ e]
      exact (h.row j (hold j hj e)).of_block (Go.Deep.blk_alloc_lt _ _ _ (h.row j (hold j hj e)).lt)
  · by_cases e : j = k
    · subst e; rw [upd_same]; exact h.since.size
    · rw [upd_other _ _ e]; exact h.base j (hold j hj e)
  · by_cases e1 : i = k
    · by_cases e2 : j = k
      · omega
      · subst e1
        rw [upd_same, upd_other _ _ e2] at e
        have := (h.row j (hold j hj e2)).lt
        omega
    · by_cases e2 : j = k
      · subst e2
        rw [upd_same, upd_other _ _ e1] at e
        have := (h.row i (hold i hi e1)).lt
        omega
      · rw [upd_other _ _ e1, upd_other _ _ e2] at e
        exact h.inj i j (hold i hi e1) (hold j hj e2) e
/-- A new block that no register names. -/
theorem St.alloc (h : St w0 w K E B) (o : Obj) : St w0 (w.alloc o) K E B :=
  ⟨h.since.alloc h.since.size _, fun j hj => (h.row j hj).of_block (Go.Deep.blk_alloc_lt _ _ _ (h.row j hj).lt), h.base, h.inj⟩
/-- What one register meets, said otherwise. -/
theorem St.wkn (h : St w0 w K E B) (k : Nat) (lb' : Lb) (ht : lb'.t = (B k).t) (hn : lb'.n = (B k).n) (hp : ∀ i v, i < (B k).n → (B k).p i v → lb'.p i v) : St w0 w K E (upd B k lb') :=
  ⟨h.since, fun j hj => by
    by_cases e : j = k
    · subst e; rw [upd_same]; exact (h.row j hj).wkn ht hn hp
    · rw [upd_other _ _ e]; exact h.row j hj, h.base, h.inj⟩
end

/-- An integer between bounds that may hang on the place. -/
def In (lo hi : Nat → Int) (i : Nat) (v : Value) : Prop := ∃ z : Int, v = .int .i64 z ∧ lo i ≤ z ∧ z < hi i
def ints (n : Nat) (lo hi : Nat → Int) : Lb := ⟨3, n, In lo hi⟩
end Go.Proofs.YbulkexmzaGreat
