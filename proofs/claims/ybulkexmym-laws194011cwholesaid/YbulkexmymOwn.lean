/-
  BOOK-KEEPING ON MEMORY: each block bears a label; what a step may write is told by labels; rows that the call owns.
-/
import Derived.Test.YbulkexmymRows
import Derived.WalkKit
import Derived.WalkSpells
import Derived.WalkLawsBesides
import Derived.Deep.MidRow
import Derived.Deep.AppendLies
import Derived.Deep.Draws
namespace Go.Proofs.Ybulkexmym
open Go.RowKit

/-- Below the heap's size the two labellings say the same. -/
def Agree (w : World) (L L' : Nat → Nat × Nat) : Prop := ∀ k, k < w.heap.size → L' k = L k

/-- From w to w' only blocks whose label is in T have turned. -/
structure Keep (L : Nat → Nat × Nat) (T : Nat × Nat → Prop) (w w' : World) : Prop where
  os : w'.os = w.os
  tape : w'.tape = w.tape
  output : w'.output = w.output
  size : w.heap.size ≤ w'.heap.size
  block : ∀ k, k < w.heap.size → ¬ T (L k) → w'.heap[k]? = w.heap[k]?

theorem Agree.refl (w : World) (L : Nat → Nat × Nat) : Agree w L L := fun _ _ => rfl
theorem Agree.trans {w w1 : World} {L L1 L2 : Nat → Nat × Nat} (h : Agree w L L1) (hs : w.heap.size ≤ w1.heap.size) (h1 : Agree w1 L1 L2) : Agree w L L2 :=
  fun k hk => (h1 k (by omega)).trans (h k hk)
/-- A label for the next block. -/
def upd (L : Nat → Nat × Nat) (h : Nat) (l : Nat × Nat) : Nat → Nat × Nat := fun k => if k = h then l else L k
theorem Agree.upd (w : World) (L : Nat → Nat × Nat) (l : Nat × Nat) {h : Nat} (hh : w.heap.size ≤ h) : Agree w L (upd L h l) := fun k hk => by
  unfold Ybulkexmym.upd; rw [if_neg (by omega)]
theorem upd_same (L : Nat → Nat × Nat) (h : Nat) (l : Nat × Nat) : upd L h l h = l := by simp [upd]

section
variable {L L1 L2 : Nat → Nat × Nat} {T T' : Nat × Nat → Prop} {w w1 w2 : World}
theorem Keep.refl (L : Nat → Nat × Nat) (T : Nat × Nat → Prop) (w : World) : Keep L T w w := ⟨rfl, rfl, rfl, Nat.le_refl _, fun _ _ _ => rfl⟩
theorem Keep.trans (h : Keep L T w w1) (ha : Agree w L L1) (k : Keep L1 T w1 w2) : Keep L T w w2 :=
  ⟨k.os.trans h.os, k.tape.trans h.tape, k.output.trans h.output, Nat.le_trans h.size k.size,
    fun i hi ht => (k.block i (Nat.lt_of_lt_of_le hi h.size) (by rw [ha i hi]; exact ht)).trans (h.block i hi ht)⟩
theorem Keep.trans' (h : Keep L T w w1) (k : Keep L T w1 w2) : Keep L T w w2 := h.trans (Agree.refl _ _) k
theorem Keep.mono (h : Keep L T w w1) (ht : ∀ l, T l → T' l) : Keep L T' w w1 := ⟨h.os, h.tape, h.output, h.size, fun k hk hn => h.block k hk (fun x => hn (ht _ x))⟩
theorem Keep.alloc (h : Keep L T w w1) (o : Obj) : Keep L T w (w1.alloc o) :=
  h.trans' ⟨rfl, rfl, rfl, by simp, fun k hk _ => Below.heap_alloc _ _ _ hk⟩
theorem Keep.drew (h : Keep L T w w1) : Keep L T w w1.drew := h.trans' ⟨rfl, rfl, rfl, Nat.le_refl _, fun _ _ _ => rfl⟩
theorem Keep.drewN (h : Keep L T w w1) (n : Nat) : Keep L T w (w1.drewN n) := h.trans' ⟨rfl, rfl, rfl, Nat.le_refl _, fun _ _ _ => rfl⟩
theorem Keep.setCell (h : Keep L T w w1) {a : Addr} (ha : T (L a.block)) (v : Value) : Keep L T w (w1.setCell a v) :=
  h.trans' ⟨rfl, rfl, rfl, by simp [World.setCell], fun k _ hn => Below.heap_setCell _ _ _ _ (fun e => hn (by rw [e]; exact ha))⟩
theorem Keep.setCells (h : Keep L T w w1) {b : Nat} (hb : T (L b)) : ∀ (vs : List Value) (o : Nat), Keep L T w (w1.setCells b o vs) := by
  intro vs
  induction vs generalizing w1 with
  | nil => intro o; exact h
  | cons v vs ih => intro o; exact ih (h.setCell (a := ⟨b, o, none⟩) hb v) (o + 1)
theorem Keep.grown (h : Keep L T w w1) {row : Option Nat} (hg : w1.grownBy w2 row) (hr : ∀ k, row = some k → T (L k)) : Keep L T w w2 :=
  h.trans' ⟨hg.os, hg.tape, hg.output, hg.size, fun k hk hn => hg.block k hk (fun e => hn (hr k e.symm))⟩
theorem Keep.cell (h : Keep L T w w1) {a : Addr} (hb : a.block < w.heap.size) (ht : ¬ T (L a.block)) : w1.cell? a = w.cell? a := World.cell?_of_block (w := w) (h.block a.block hb ht)
theorem Keep.frozen (h : Keep L T w w1) {a : Addr} (hb : a.block < w.heap.size) (ht : ¬ T (L a.block)) : w1.frozen? a = w.frozen? a := World.frozen?_of_block (w := w) (h.block a.block hb ht)
theorem Keep.cell_of (h : Keep L T w w1) {a : Addr} {v : Value} (hc : w.cell? a = some v) (ht : ¬ T (L a.block)) : w1.cell? a = some v := (h.cell (World.block_lt_of_cell? _ _ hc) ht).trans hc
theorem Keep.range (h : Keep L T w w1) {b o : Nat} {cs : List Value} (hc : w.rangeAt b o cs) (ht : ¬ T (L b)) : w1.rangeAt b o cs := fun j v hv => h.cell_of (hc j v hv) ht
theorem Keep.there (h : Keep L T w w1) {b o n : Nat} (hb : b < w.heap.size) (hc : w.there b o n) (ht : ¬ T (L b)) : w1.there b o n := fun j hj => by
  rw [h.cell (a := ⟨b, o + j, none⟩) hb ht, h.frozen (a := ⟨b, o + j, none⟩) hb ht]; exact hc j hj
theorem Keep.below (h : Keep L T w w1) {B : Nat} (hB : ∀ k, k < B → ¬ T (L k)) (hs : B ≤ w.heap.size) : Below B w w1 :=
  ⟨h.os, h.tape, h.output, h.size, fun k hk => h.block k (by omega) (hB k hk)⟩
end

/-- A slice of the call's own: one cell an element, the row at the head of a block that bears the label. -/
structure Row (w : World) (L : Nat → Nat × Nat) (l : Nat × Nat) (B : Nat) (e : TypeId) (v : Value) (xs : List Value) : Prop where
  own : w.ownsRow B e 1 v xs.length xs
  lab : ∀ g, v.ownBlock = some g → L g = l

section
variable {L L1 : Nat → Nat × Nat} {T : Nat × Nat → Prop} {w w1 : World} {l : Nat × Nat} {B : Nat} {e : TypeId} {v : Value} {xs : List Value}
theorem Row.nil (w : World) (L : Nat → Nat × Nat) (l : Nat × Nat) (B : Nat) (e : TypeId) : Row w L l B e (.slice none 0 0) [] :=
  ⟨World.ownsRow_nil _ _ _ _, fun g hg => by simp [Value.ownBlock] at hg⟩
theorem Row.keep (h : Row w L l B e v xs) (k : Keep L T w w1) (ha : Agree w L L1) (ht : ¬ T l) : Row w1 L1 l B e v xs := by
  obtain ⟨⟨h1, h2⟩, h3⟩ := h
  have hlt := World.ownsRow.lt ⟨h1, h2⟩
  refine ⟨⟨h1, ?_⟩, fun g hg => (ha g (hlt g hg).2).trans (h3 g hg)⟩
  rcases h2 with h2 | ⟨g, cap, cur, rfl, hb, hg, r⟩
  · exact .inl h2
  · refine .inr ⟨g, cap, cur, rfl, hb, ?_, r⟩
    rw [k.block g (hlt g rfl).2 (by rw [h3 g rfl]; exact ht)]; exact hg
/-- The value's form. -/
theorem Row.form (h : Row w L l B e v xs) : (v = .slice none 0 0 ∧ xs = []) ∨ ∃ g cap, v = .slice (some ⟨g, 0, none⟩) xs.length cap ∧ xs.length ≤ cap ∧ B ≤ g ∧ g < w.heap.size ∧ L g = l := by
  rcases h.own.2 with ⟨h1, h2⟩ | ⟨g, cap, cur, h1, h2, h3, h4, _⟩
  · exact .inl ⟨h1, List.eq_nil_of_length_eq_zero h2⟩
  · subst h1
    exact .inr ⟨g, cap, rfl, h4, h2, (World.ownsRow.lt h.own g rfl).2, h.lab g rfl⟩
theorem Row.cell {g cap : Nat} (h : Row w L l B e (.slice (some ⟨g, 0, none⟩) xs.length cap) xs) (j : Nat) (hj : j < xs.length) : w.cell? ⟨g, j, none⟩ = some xs[j] := by
  have := h.own.cells rfl j xs[j] (by simp)
  simpa [Go.WideShapes.add_plain] using this
theorem Row.free {g cap : Nat} (h : Row w L l B e (.slice (some ⟨g, 0, none⟩) xs.length cap) xs) (j : Nat) : w.frozen? ⟨g, j, none⟩ = false := by
  rcases h.own.2 with ⟨h1, _⟩ | ⟨g', cap', cur, h1, _, h3, _⟩
  · simp at h1
  · simp at h1
    obtain ⟨rfl, rfl⟩ := h1
    simp [World.frozen?, h3]
/-- What an append leaves. -/
theorem Row.appended {news : List Value} {g cap : Nat} {H : Nat} (h : Row w L l B e v xs) {w2 : World}
    (hown : w2.ownsRow B e 1 (.slice (some ⟨g, 0, none⟩) (xs.length + news.length) cap) (xs.length + news.length) (xs ++ news)) (hat : v.ownBlock = some g ∨ g = H) :
    Row w2 (upd L H l) l B e (.slice (some ⟨g, 0, none⟩) (xs ++ news).length cap) (xs ++ news) := by
  refine ⟨by rw [List.length_append]; exact hown, fun g' hg' => ?_⟩
  simp only [Value.ownBlock, Option.some.injEq] at hg'
  subst hg'
  by_cases hgh : g = H
  · rw [hgh]; exact upd_same _ _ _
  · rcases hat with hat | hat
    · unfold upd; rw [if_neg hgh]; exact h.lab g hat
    · exact absurd hat hgh
end
end Go.Proofs.Ybulkexmym
