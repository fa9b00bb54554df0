/-
  IN A BLOCK OR NOT: what Begin and the last AddPart leave.
-/
import Derived.Test.YbulkexmymStart
namespace Go.Proofs.Ybulkexmym
open Go.RowKit

section
variable {w0 w w' : World} {L L' : Nat → Nat × Nat} {B gb : Nat} {un : Value} {n : Nat} {ob : Nat → Ob} {pv : Nat → Value} {C : Nat → Nat} {nc : Nat} {cv : Value}
variable {xd xw xo xp xs : List Value} {dv wv ov nv sv : Value} {N : Nat} {mv : Nat → Value} {ps : Nat → List Nat}

/-- Behind Begin, where it is called. -/
def Ex0 (inb : Bool) (un : Value) (w : World) (L : Nat → Nat × Nat) (B n : Nat) : Prop :=
  (inb = false ∧ un = .pointer none) ∨ (inb = true ∧ ∃ ub mb, un = .pointer (some ⟨ub, 0, none⟩) ∧ UInv w L B ub mb n ∧ w.heap[mb]? = some (.map #[] 0))

/-- Behind the last AddPart. -/
def Ex (inb : Bool) (un : Value) (w : World) (L : Nat → Nat × Nat) (B n : Nat) (ob : Nat → Ob) (pv : Nat → Value) (i : Nat) : Prop :=
  (inb = false ∧ un = .pointer none) ∨ (inb = true ∧ ∃ ub mb, un = .pointer (some ⟨ub, 0, none⟩) ∧ UInv w L B ub mb n ∧ w.heap[mb]? = some (entry ob pv i) ∧
    ∀ g0, (pv i).ownBlock = some g0 → L g0 = (4, i) ∧ g0 < w.heap.size ∧ ∀ j u, (ids (ob i).parts)[j]? = some u → w.cell? ⟨g0, j, none⟩ = some u)

theorem Ex.keep {inb : Bool} {i : Nat} (h : Ex inb un w L B n ob pv i) {T : Nat × Nat → Prop} (k : Keep L T w w') (ha : Agree w L L') (ht : ∀ l, T l → 7 ≤ l.1) : Ex inb un w' L' B n ob pv i := by
  rcases h with h | ⟨h1, ub, mb, h2, h3, h4, h5⟩
  · exact .inl h
  · refine .inr ⟨h1, ub, mb, h2, h3.keep k ha (fun x => by have := ht _ x; simp at this), ?_, fun g0 hg0 => ?_⟩
    · rw [k.block mb h3.ms (fun x => by have := ht _ x; rw [h3.ml] at this; simp at this)]; exact h4
    · obtain ⟨q1, q2, q3⟩ := h5 g0 hg0
      exact ⟨(ha g0 q2).trans q1, Nat.lt_of_lt_of_le q2 k.size, fun j u hu => k.cell_of (q3 j u hu) (fun x => by have := ht _ x; simp only [q1] at this; simp at this)⟩

theorem all_begin (h : All w0 w L B gb (.pointer none) n ob pv C nc cv xd xw xo xp xs dv wv ov nv sv N mv ps) :
    Calls Yba.prog 6 #[.pointer (some ⟨gb, 0, none⟩)] w fun e w' => e = .returned (.tuple #[]) ∧ ∃ L' un, All w0 w' L' B gb un n ob pv C nc cv xd xw xo xp xs dv wv ov nv sv N mv ps ∧ Ex0 true un w' L' B n := by
  refine (begin_inv h.g).mono ?_
  rintro e w' ⟨rfl, ub, mb, L', ha, k, hg, hu, hm⟩
  exact ⟨rfl, L', _, h.graph k ha (fun l hl => ⟨hl.1, by have := hl.2; omega⟩) hg, .inr ⟨rfl, ub, mb, rfl, hu, hm⟩⟩

theorem all_last {inb : Bool} (h : All w0 w L B gb un n ob pv C nc cv xd xw xo xp xs dv wv ov nv sv N mv ps) (hx : Ex0 inb un w L B n) (hmax : n < 65540) (i : Nat) (hi : i < n) (hw : (ob i).whole = i) (d : ByteArray) :
    Calls Yba.prog 5 #[.pointer (some ⟨gb, 0, none⟩), .int .i32 i, .string d] w fun e w' => e = .returned (.int .i32 n) ∧ ∃ L' pv' C' nc' cv', All w0 w' L' B gb un (n + 1) (partOb ob n i d) pv' C' nc' cv' xd xw xo xp xs dv wv ov nv sv N mv ps ∧ Ex inb un w' L' B n ob pv i := by
  rcases hx with ⟨h1, rfl⟩ | ⟨h1, ub, mb, rfl, hu, hm⟩
  · refine (addPart_any i (change_nil h.g i hi) h.g hmax hi hw d).mono ?_
    rintro e w' ⟨rfl, L', C', nc', cv', pv', hG, hI, _⟩
    exact ⟨rfl, L', pv', C', nc', cv', h.graph hG.keep hG.agree (fun l hl => ⟨hl.1, by have := hl.2; omega⟩) hI, .inl ⟨h1, rfl⟩⟩
  · refine (addPart_undo h.g hu hm hmax i hi hw d).mono ?_
    rintro e w' ⟨rfl, L', C', nc', cv', pv', ha, k, hI, hu', hm', hold⟩
    refine ⟨rfl, L', pv', C', nc', cv', h.graph k ha (fun l hl => hl) hI, .inr ⟨h1, ub, mb, rfl, hu', hm', fun g0 hg0 => ?_⟩⟩
    obtain ⟨q1, q2⟩ := hold g0 hg0
    exact ⟨q1, Nat.lt_of_lt_of_le (World.ownsRow.lt (h.g.pr i hi).own g0 hg0).2 k.size, q2⟩
end
end Go.Proofs.Ybulkexmym
