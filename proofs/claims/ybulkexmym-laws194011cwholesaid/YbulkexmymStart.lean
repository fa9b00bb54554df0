/-
  THE START: the zero Graph, the five nil slices.
-/
import Derived.Test.YbulkexmymWp
namespace Go.Proofs.Ybulkexmym
open Go.RowKit

theorem start_all (w : World) :
    Canon w (w.alloc (.cells #[.slice none 0 0, .int .i64 0, .slice none 0 0, .pointer none] 30)) (upd (fun _ => (0, 0)) w.heap.size (1, 0)) w.heap.size w.heap.size (.pointer none) 0 (fun _ => ⟨⟨#[]⟩, 0, 0, []⟩) (fun _ => .slice none 0 0) (fun _ => 0) 0 (.slice none 0 0) []
      (.slice none 0 0) (.slice none 0 0) (.slice none 0 0) (.slice none 0 0) (.slice none 0 0) (fun _ => .slice none 0 0) := by
  refine ⟨fun x hx => (by cases hx), Nat.le_refl _, ?_⟩
  refine ⟨⟨?_, ?_, ?_, ?_, fun o _ => World.frozen?_alloc_new w _ _ _, upd_same _ _ _, Nat.le_refl _, by simp, Row.nil _ _ _ _ _, fun c hc => absurd hc (Nat.not_lt_zero _), fun c hc => absurd hc (Nat.not_lt_zero _), Nat.le_refl _, by omega, Nat.le_refl _, by omega,
    fun i hi => absurd hi (Nat.not_lt_zero _), fun i hi => absurd hi (Nat.not_lt_zero _), fun i hi => absurd hi (Nat.not_lt_zero _), fun i hi => absurd hi (Nat.not_lt_zero _)⟩,
    fun k hk => by unfold upd; rw [if_neg (by omega)], (Below.refl _ _).alloc (Nat.le_refl _) _, by simp, Row.nil _ _ _ _ _, Row.nil _ _ _ _ _, Row.nil _ _ _ _ _, Row.nil _ _ _ _ _, Row.nil _ _ _ _ _, fun i hi => absurd hi (Nat.not_lt_zero _)⟩ <;>
  · rw [World.cell?_alloc_new]; rfl

/-- What undo's block adds. -/
theorem keep_putMap {L : Nat → Nat × Nat} {T : Nat × Nat → Prop} {w : World} (mb : Nat) (o : Obj) (h : T (L mb)) : Keep L T w (putMap w mb o) :=
  ⟨rfl, rfl, rfl, by simp [putMap], fun k _ hn => by
    show (w.heap.setIfInBounds mb o)[k]? = _
    rw [Array.getElem?_setIfInBounds, if_neg (fun e => hn (by rw [← e]; exact h))]⟩
theorem heap_putMap (w : World) (mb : Nat) (o : Obj) (h : mb < w.heap.size) : (putMap w mb o).heap[mb]? = some o := by
  show (w.heap.setIfInBounds mb o)[mb]? = _
  simp [h]

theorem UInv.keep {w w' : World} {L L' : Nat → Nat × Nat} {B ub mb n : Nat} (h : UInv w L B ub mb n) {T : Nat × Nat → Prop} (k : Keep L T w w') (ha : Agree w L L') (ht : ¬ T (5, 0)) : UInv w' L' B ub mb n := by
  have hn : ¬ T (L ub) := by rw [h.ul]; exact ht
  exact ⟨k.cell_of h.u0 hn, k.cell_of h.u1 hn, k.cell_of h.u2 hn, (ha ub (World.block_lt_of_cell? _ _ h.u0)).trans h.ul, (ha mb h.ms).trans h.ml, Nat.lt_of_lt_of_le h.ms k.size, h.uB, h.mB⟩

/-- What the undo log keeps of object i. -/
def entry (ob : Nat → Ob) (pv : Nat → Value) (i : Nat) : Obj :=
  .map #[{ key := .int .i32 i, val := .agg #[.string (ob i).desc, .int .i32 (ob i).whole, .int .i32 (ob i).part, pv i, .bool false, .bool false, .slice none 0 0, .slice none 0 0, .int .i32 0], born := 0 }] 1

theorem addPart_undo {w : World} {L : Nat → Nat × Nat} {B gb ub mb n : Nat} {ob : Nat → Ob} {pv : Nat → Value} {C : Nat → Nat} {nc : Nat} {cv : Value} (h : GInv w L B gb (.pointer (some ⟨ub, 0, none⟩)) n n ob pv C nc cv) (hu : UInv w L B ub mb n) (hm : w.heap[mb]? = some (.map #[] 0))
    (hmax : n < 65540) (i : Nat) (hi : i < n) (hw : (ob i).whole = i) (d : ByteArray) :
    Calls Yba.prog 5 #[.pointer (some ⟨gb, 0, none⟩), .int .i32 i, .string d] w fun e w' => e = .returned (.int .i32 n) ∧ ∃ L' C' nc' cv' pv', Agree w L L' ∧ Keep L (fun l => 1 ≤ l.1 ∧ l.1 ≤ 6) w w' ∧
      GInv w' L' B gb (.pointer (some ⟨ub, 0, none⟩)) (n + 1) (n + 1) (partOb ob n i d) pv' C' nc' cv' ∧ UInv w' L' B ub mb n ∧ w'.heap[mb]? = some (entry ob pv i) ∧
      (∀ g0, (pv i).ownBlock = some g0 → L' g0 = (4, i) ∧ ∀ j u, (ids (ob i).parts)[j]? = some u → w'.cell? ⟨g0, j, none⟩ = some u) := by
  have hch := change_undo ub mb h hu hm i hi
  have ka : Keep L (fun l => l = (6, 0)) w (w.alloc (.cells #[.string ⟨#[]⟩, .int .i32 0, .int .i32 0, .slice none 0 0, .bool false, .bool false, .slice none 0 0, .slice none 0 0, .int .i32 0] 42)).drew := ((Keep.refl L _ w).alloc _).drew
  have kp := fun o => ka.trans' (keep_putMap mb o hu.ml)
  have aa : Agree w L (upd L w.heap.size (0, 0)) := Agree.upd w L _ (Nat.le_refl _)
  have h1 := h.keep (kp (entry ob pv i)) aa (fun l hl => by rw [hl]; simp)
  have hu1 := hu.keep (kp (entry ob pv i)) aa (by simp)
  refine (addPart_any i hch h1 hmax hi hw d).mono ?_
  rintro e w' ⟨rfl, L', C', nc', cv', pv', hG, hI, hold⟩
  have hmb : (putMap (w.alloc (.cells #[.string ⟨#[]⟩, .int .i32 0, .int .i32 0, .slice none 0 0, .bool false, .bool false, .slice none 0 0, .slice none 0 0, .int .i32 0] 42)).drew mb (entry ob pv i)).heap[mb]? = some (entry ob pv i) :=
    heap_putMap _ _ _ (by show mb < (w.alloc _).heap.size; simp; have := hu.ms; omega)
  refine ⟨rfl, L', C', nc', cv', pv', aa.trans (kp (entry ob pv i)).size hG.agree, ((kp (entry ob pv i)).mono (fun l hl => by rw [hl]; exact ⟨by simp, by simp⟩)).trans aa (hG.keep.mono (fun l hl => ⟨hl.1, by have := hl.2; omega⟩)), hI,
    hu1.keep hG.keep hG.agree (fun x => by have := x.2; simp at this), ?_, fun g0 hg0 => ⟨?_, hold g0 hg0⟩⟩
  · rw [hG.keep.block mb hu1.ms (by rw [hu1.ml]; exact fun x => by have := x.2; simp at this)]; exact hmb
  · rw [hG.agree g0 (World.ownsRow.lt (h1.pr i hi).own g0 hg0).2]; exact (h1.pr i hi).lab g0 hg0
end Go.Proofs.Ybulkexmym
