/-
  newSinker (10): region 28.
-/
import Derived.Test.YbulkexmzaGreatNb
namespace Go.Proofs.YbulkexmzaGreat
open Go.RowKit
def zany (t : TypeId) (n : Nat) : Lb := ⟨t, n, fun _ _ => True⟩
set_option maxHeartbeats 8000000 in
set_option maxRecDepth 100000 in
theorem n28 {F : (Nat → Value) → Act} (hF : Fr 233 F) {w0 w : World} {fb sp ix : Nat} {D f : Nat → Value} {Q : Exit → Act → World → Prop}
    (hs : w0.Since w0.heap.size w) (hk9 : w0.cell? ⟨fb, 9, none⟩ = some (.slice none 0 0)) (hk10 : w0.cell? ⟨fb, 10, none⟩ = some (.slice none 0 0)) (hsp : w0.heap.size ≤ sp) (hrow : RowOk w sp (vals 79 23 D)) (hix : ix < 2) (h0 : f 0 = .pointer (some ⟨fb, 0, none⟩)) (h8 : f 8 = .pointer (some ⟨sp, 0, none⟩)) (h16 : f 16 = .int .i64 (ix : Nat))
    (hQ : ∀ x w' q D', (∀ s, s < 233 → wrF (opsL (Ybaz.f10.body.bind (regAt 28))) 0 s = none → x s = f s) → w0.Since w0.heap.size w' → RowOk w' sp (vals 79 23 D') → (∀ i, i ≠ 18 + ix → D' i = D i) → D' (18 + ix) = .pointer (some ⟨q, 0, none⟩) → w0.heap.size ≤ q → sp ≠ q → RowOk w' q (zany 101 20) → (∀ b, b < w.heap.size → b ≠ sp → w'.heap[b]? = w.heap[b]?) → Q .normal (F x) w') :
    ((Ybaz.f10.body.bind (regAt 28)).getD .skip).wp Ybaz.prog Q (F f) w := by
  conv => arg 2; whnf
  have hixz : (ix : Int) < 2 := by omega
  have hlt0 : sp < w.heap.size := hrow.lt
  have HQ : Hid (∀ x w' q D', (∀ s, s < 233 → wrF (opsL (Ybaz.f10.body.bind (regAt 28))) 0 s = none → x s = f s) → w0.Since w0.heap.size w' → RowOk w' sp (vals 79 23 D') → (∀ i, i ≠ 18 + ix → D' i = D i) → D' (18 + ix) = .pointer (some ⟨q, 0, none⟩) → w0.heap.size ≤ q → sp ≠ q → RowOk w' q (zany 101 20) → (∀ b, b < w.heap.size → b ≠ sp → w'.heap[b]? = w.heap[b]?) → Q .normal (F x) w') := hQ
  have HROW : Hid (RowOk w sp (vals 79 23 D)) := hrow
  clear hQ hrow
  refine region_frm hF (γ := (Nat → Nat)) (fun op9 g => match op9 with
    | 0 => .pointer (some ⟨sp, 0, none⟩)
    | 1 => .int .i64 (ix : Nat)
    | 2 => .agg #[.int .i64 (-1), .int .i64 (-1)]
    | 3 => .slice (some ⟨g 3, 0, none⟩) 1 1
    | 4 => .pointer (some ⟨fb, 0, none⟩)
    | 5 => .pointer (some ⟨fb, 0, none⟩)
    | 6 => .pointer (some ⟨fb, 9, none⟩)
    | 7 => .slice none 0 0
    | 8 => .int .i64 0
    | 9 => .slice (some ⟨g 9, 0, none⟩) 0 0
    | 10 => .agg #[.int .i64 (-1), .int .i64 (-1)]
    | 11 => .slice (some ⟨g 11, 0, none⟩) 1 1
    | 12 => .pointer (some ⟨fb, 0, none⟩)
    | 13 => .pointer (some ⟨fb, 0, none⟩)
    | 14 => .pointer (some ⟨fb, 9, none⟩)
    | 15 => .slice none 0 0
    | 16 => .int .i64 0
    | 17 => .slice (some ⟨g 17, 0, none⟩) 0 0
    | 18 => .slice (some ⟨g 18, 0, none⟩) 1 1
    | 19 => .pointer (some ⟨fb, 0, none⟩)
    | 20 => .pointer (some ⟨fb, 0, none⟩)
    | 21 => .pointer (some ⟨fb, 9, none⟩)
    | 22 => .slice none 0 0
    | 23 => .int .i64 0
    | 24 => .slice (some ⟨g 24, 0, none⟩) 0 0
    | 25 => .pointer (some ⟨fb, 0, none⟩)
    | 26 => .pointer (some ⟨fb, 0, none⟩)
    | 27 => .pointer (some ⟨fb, 10, none⟩)
    | 28 => .slice none 0 0
    | 29 => .int .i64 0
    | 30 => .slice (some ⟨g 30, 0, none⟩) 0 0
    | 31 => .slice (some ⟨g 31, 0, none⟩) 1 1
    | 32 => .pointer (some ⟨fb, 0, none⟩)
    | 33 => .pointer (some ⟨fb, 0, none⟩)
    | 34 => .pointer (some ⟨fb, 10, none⟩)
    | 35 => .slice none 0 0
    | 36 => .int .i64 0
    | 37 => .slice (some ⟨g 37, 0, none⟩) 0 0
    | 38 => .agg #[.slice none 0 0, .slice none 0 0, .int .i64 0, .slice none 0 0, .slice none 0 0, .slice (some ⟨g 9, 0, none⟩) 0 0, .slice (some ⟨g 17, 0, none⟩) 0 0, .slice (some ⟨g 24, 0, none⟩) 0 0, .slice none 0 0, .slice none 0 0, .int .i64 0, .slice none 0 0, .int .i64 0, .slice (some ⟨g 30, 0, none⟩) 0 0, .slice (some ⟨g 37, 0, none⟩) 0 0, .slice none 0 0, .slice none 0 0, .slice none 0 0, .slice none 0 0, .slice none 0 0]
    | 39 => .pointer (some ⟨g 39, 0, none⟩)
    | 40 => .pointer (some ⟨sp, 0, none⟩)
    | 41 => .pointer (some ⟨sp, 18, none⟩)
    | 42 => .pointer (some ⟨sp, 18 + ix, none⟩)
    | 43 => undef
    | _ => undef) (fun l g w' => w0.Since w0.heap.size w' ∧ (l 43 = false → l 18 = true → w'.cell? ⟨g 18, 0, none⟩ = some (.int .i64 (-1))) ∧ (l 43 = false → l 31 = true → w'.cell? ⟨g 31, 0, none⟩ = some (.int .i64 (-1))) ∧ (l 39 = true → w0.heap.size ≤ g 39 ∧ sp < g 39 ∧ RowOk w' (g 39) (zany 101 20)) ∧ (sp < w'.heap.size) ∧ (w.heap.size ≤ w'.heap.size) ∧ (∀ b, b < w.heap.size → b ≠ sp → w'.heap[b]? = w.heap[b]?) ∧ ∃ D', RowOk w' sp (vals 79 23 D') ∧ (∀ i, i ≠ 18 + ix → D' i = D i) ∧ (l 43 = true → D' (18 + ix) = .pointer (some ⟨g 39, 0, none⟩))) (fun _ => 0) (by kernel_rfl) (by kernel_rfl) ⟨hs.drew, fun _ h => (by cases h), fun _ h => (by cases h), fun h => (by cases h), hlt0, Nat.le_refl _, fun _ _ _ => rfl, ⟨D, HROW.out.of_block rfl, fun _ _ => rfl, fun h => (by cases h)⟩⟩ ?_ ?_
  · refine ⟨?_, ?_, ?_, ?_, ?_, ?_, ?_, ?_, ?_, ?_, ?_, ?_, ?_, ?_, ?_, ?_, ?_, ?_, ?_, ?_, ?_, ?_, ?_, ?_, ?_, ?_, ?_, ?_, ?_, ?_, ?_, ?_, ?_, ?_, ?_, ?_, ?_, ?_, ?_, ?_, ?_, ?_, ?_, ?_, trivial⟩
    · intro l g a w' K hp hc hl hG hM hK
      have e8 : a.eval (.tmp 8) = .pointer (some ⟨sp, 0, none⟩) := (hG.oldF hF 8 (by kernel_rfl) (by omega)).trans h8
      have hM' : w0.Since w0.heap.size w' ∧ ((upd l 0 true) 43 = false → (upd l 0 true) 18 = true → w'.cell? ⟨g 18, 0, none⟩ = some (.int .i64 (-1))) ∧ ((upd l 0 true) 43 = false → (upd l 0 true) 31 = true → w'.cell? ⟨g 31, 0, none⟩ = some (.int .i64 (-1))) ∧ ((upd l 0 true) 39 = true → w0.heap.size ≤ g 39 ∧ sp < g 39 ∧ RowOk w' (g 39) (zany 101 20)) ∧ (sp < w'.heap.size) ∧ (w.heap.size ≤ w'.heap.size) ∧ (∀ b, b < w.heap.size → b ≠ sp → w'.heap[b]? = w.heap[b]?) ∧ ∃ D', RowOk w' sp (vals 79 23 D') ∧ (∀ i, i ≠ 18 + ix → D' i = D i) ∧ ((upd l 0 true) 43 = true → D' (18 + ix) = .pointer (some ⟨g 39, 0, none⟩)) := hM
      clear hc hp hG hM
      unfold Oper.wp; generalize a.eval = ρ at *; go_simp; exact hK g w' (fun _ _ => rfl) hM'
    · intro l g a w' K hp hc hl hG hM hK
      have e16 : a.eval (.tmp 16) = .int .i64 (ix : Nat) := (hG.oldF hF 16 (by kernel_rfl) (by omega)).trans h16
      have hM' : w0.Since w0.heap.size w' ∧ ((upd l 1 true) 43 = false → (upd l 1 true) 18 = true → w'.cell? ⟨g 18, 0, none⟩ = some (.int .i64 (-1))) ∧ ((upd l 1 true) 43 = false → (upd l 1 true) 31 = true → w'.cell? ⟨g 31, 0, none⟩ = some (.int .i64 (-1))) ∧ ((upd l 1 true) 39 = true → w0.heap.size ≤ g 39 ∧ sp < g 39 ∧ RowOk w' (g 39) (zany 101 20)) ∧ (sp < w'.heap.size) ∧ (w.heap.size ≤ w'.heap.size) ∧ (∀ b, b < w.heap.size → b ≠ sp → w'.heap[b]? = w.heap[b]?) ∧ ∃ D', RowOk w' sp (vals 79 23 D') ∧ (∀ i, i ≠ 18 + ix → D' i = D i) ∧ ((upd l 1 true) 43 = true → D' (18 + ix) = .pointer (some ⟨g 39, 0, none⟩)) := hM
      clear hc hp hG hM
      unfold Oper.wp; generalize a.eval = ρ at *; go_simp; exact hK g w' (fun _ _ => rfl) hM'
    · intro l g a w' K hp hc hl hG hM hK
      have ec : ∀ v, a.eval (.const v) = v := fun _ => rfl
      have hM' : w0.Since w0.heap.size w' ∧ ((upd l 2 true) 43 = false → (upd l 2 true) 18 = true → w'.cell? ⟨g 18, 0, none⟩ = some (.int .i64 (-1))) ∧ ((upd l 2 true) 43 = false → (upd l 2 true) 31 = true → w'.cell? ⟨g 31, 0, none⟩ = some (.int .i64 (-1))) ∧ ((upd l 2 true) 39 = true → w0.heap.size ≤ g 39 ∧ sp < g 39 ∧ RowOk w' (g 39) (zany 101 20)) ∧ (sp < w'.heap.size) ∧ (w.heap.size ≤ w'.heap.size) ∧ (∀ b, b < w.heap.size → b ≠ sp → w'.heap[b]? = w.heap[b]?) ∧ ∃ D', RowOk w' sp (vals 79 23 D') ∧ (∀ i, i ≠ 18 + ix → D' i = D i) ∧ ((upd l 2 true) 43 = true → D' (18 + ix) = .pointer (some ⟨g 39, 0, none⟩)) := hM
      clear hc hp hG hM
      unfold Oper.wp; generalize a.eval = ρ at *; go_simp; exact hK g w' (fun _ _ => rfl) hM'
    · intro l g a w' K hp hc hl hG hM hK
      have e177 : a.eval (.tmp 177) = .agg #[.int .i64 (-1), .int .i64 (-1)] := hG.of 177 2 (by kernel_rfl) (preAt hc 44 _ hp (by kernel_rfl))
      have hsn : w'.Since w'.heap.size (w'.alloc (.cells #[.int .i64 (-1), .int .i64 (-1)] 95)) := alloc_since _ _
      have fin := hK (upd g 3 w'.heap.size) (w'.alloc (.cells #[.int .i64 (-1), .int .i64 (-1)] 95)) (fun i hi => by
              match i, hi with
              | 0, _ => rfl
              | 1, _ => rfl
              | 2, _ => rfl
              | 3, hi => exact absurd hi (by rw [hl]; decide)
              | 4, _ => rfl
              | 5, _ => rfl
              | 6, _ => rfl
              | 7, _ => rfl
              | 8, _ => rfl
              | 9, _ => rfl
              | 10, _ => rfl
              | 11, _ => rfl
              | 12, _ => rfl
              | 13, _ => rfl
              | 14, _ => rfl
              | 15, _ => rfl
              | 16, _ => rfl
              | 17, _ => rfl
              | 18, _ => rfl
              | 19, _ => rfl
              | 20, _ => rfl
              | 21, _ => rfl
              | 22, _ => rfl
              | 23, _ => rfl
              | 24, _ => rfl
              | 25, _ => rfl
              | 26, _ => rfl
              | 27, _ => rfl
              | 28, _ => rfl
              | 29, _ => rfl
              | 30, _ => rfl
              | 31, _ => rfl
              | 32, _ => rfl
              | 33, _ => rfl
              | 34, _ => rfl
              | 35, _ => rfl
              | 36, _ => rfl
              | 37, _ => rfl
              | 38, _ => rfl
              | 39, _ => rfl
              | 40, _ => rfl
              | 41, _ => rfl
              | 42, _ => rfl
              | 43, _ => rfl
              | _ + 44, _ => rfl) ⟨hM.1.alloc hM.1.size _, fun h3 h' => by
        rw [upd_other _ _ (by omega)] at h' h3 ⊢
        exact old_cell hsn (hM.2.1 h3 h'), fun h3 h' => by
        rw [upd_other _ _ (by omega)] at h' h3 ⊢
        exact old_cell hsn (hM.2.2.1 h3 h'), fun h' => by
        rw [upd_other _ _ (by omega)] at h' ⊢
        obtain ⟨q1, q2, q3⟩ := hM.2.2.2.1 h'
        exact ⟨q1, q2, q3.of_block (hsn.block _ q3.lt)⟩, Nat.lt_of_lt_of_le hM.2.2.2.2.1 hsn.size, Nat.le_trans hM.2.2.2.2.2.1 hsn.size, fun b hb hne => (hsn.block b (Nat.lt_of_lt_of_le hb hM.2.2.2.2.2.1)).trans (hM.2.2.2.2.2.2.1 b hb hne), by
        obtain ⟨D', q1, q2, q3⟩ := hM.2.2.2.2.2.2.2
        exact ⟨D', q1.of_block (hsn.block _ hM.2.2.2.2.1), q2, fun h' => absurd h' (by rw [upd_other _ _ (by omega), hc.not 43 44 hl (by kernel_rfl)]; decide)⟩⟩
      clear hK hc hp hG hM hsn
      unfold Oper.wp; generalize a.eval = ρ at *; go_simp; exact fin
    · intro l g a w' K hp hc hl hG hM hK
      have e0 : a.eval (.tmp 0) = .pointer (some ⟨fb, 0, none⟩) := (hG.oldF hF 0 (by kernel_rfl) (by omega)).trans h0
      have hM' : w0.Since w0.heap.size w' ∧ ((upd l 4 true) 43 = false → (upd l 4 true) 18 = true → w'.cell? ⟨g 18, 0, none⟩ = some (.int .i64 (-1))) ∧ ((upd l 4 true) 43 = false → (upd l 4 true) 31 = true → w'.cell? ⟨g 31, 0, none⟩ = some (.int .i64 (-1))) ∧ ((upd l 4 true) 39 = true → w0.heap.size ≤ g 39 ∧ sp < g 39 ∧ RowOk w' (g 39) (zany 101 20)) ∧ (sp < w'.heap.size) ∧ (w.heap.size ≤ w'.heap.size) ∧ (∀ b, b < w.heap.size → b ≠ sp → w'.heap[b]? = w.heap[b]?) ∧ ∃ D', RowOk w' sp (vals 79 23 D') ∧ (∀ i, i ≠ 18 + ix → D' i = D i) ∧ ((upd l 4 true) 43 = true → D' (18 + ix) = .pointer (some ⟨g 39, 0, none⟩)) := hM
      clear hc hp hG hM
      unfold Oper.wp; generalize a.eval = ρ at *; go_simp; exact hK g w' (fun _ _ => rfl) hM'
    · intro l g a w' K hp hc hl hG hM hK
      have e179 : a.eval (.tmp 179) = .pointer (some ⟨fb, 0, none⟩) := hG.of 179 4 (by kernel_rfl) (preAt hc 44 _ hp (by kernel_rfl))
      have hM' : w0.Since w0.heap.size w' ∧ ((upd l 5 true) 43 = false → (upd l 5 true) 18 = true → w'.cell? ⟨g 18, 0, none⟩ = some (.int .i64 (-1))) ∧ ((upd l 5 true) 43 = false → (upd l 5 true) 31 = true → w'.cell? ⟨g 31, 0, none⟩ = some (.int .i64 (-1))) ∧ ((upd l 5 true) 39 = true → w0.heap.size ≤ g 39 ∧ sp < g 39 ∧ RowOk w' (g 39) (zany 101 20)) ∧ (sp < w'.heap.size) ∧ (w.heap.size ≤ w'.heap.size) ∧ (∀ b, b < w.heap.size → b ≠ sp → w'.heap[b]? = w.heap[b]?) ∧ ∃ D', RowOk w' sp (vals 79 23 D') ∧ (∀ i, i ≠ 18 + ix → D' i = D i) ∧ ((upd l 5 true) 43 = true → D' (18 + ix) = .pointer (some ⟨g 39, 0, none⟩)) := hM
      clear hc hp hG hM
      unfold Oper.wp; generalize a.eval = ρ at *; go_simp; exact hK g w' (fun _ _ => rfl) hM'
    · intro l g a w' K hp hc hl hG hM hK
      have e180 : a.eval (.tmp 180) = .pointer (some ⟨fb, 0, none⟩) := hG.of 180 5 (by kernel_rfl) (preAt hc 44 _ hp (by kernel_rfl))
      have hM' : w0.Since w0.heap.size w' ∧ ((upd l 6 true) 43 = false → (upd l 6 true) 18 = true → w'.cell? ⟨g 18, 0, none⟩ = some (.int .i64 (-1))) ∧ ((upd l 6 true) 43 = false → (upd l 6 true) 31 = true → w'.cell? ⟨g 31, 0, none⟩ = some (.int .i64 (-1))) ∧ ((upd l 6 true) 39 = true → w0.heap.size ≤ g 39 ∧ sp < g 39 ∧ RowOk w' (g 39) (zany 101 20)) ∧ (sp < w'.heap.size) ∧ (w.heap.size ≤ w'.heap.size) ∧ (∀ b, b < w.heap.size → b ≠ sp → w'.heap[b]? = w.heap[b]?) ∧ ∃ D', RowOk w' sp (vals 79 23 D') ∧ (∀ i, i ≠ 18 + ix → D' i = D i) ∧ ((upd l 6 true) 43 = true → D' (18 + ix) = .pointer (some ⟨g 39, 0, none⟩)) := hM
      clear hc hp hG hM
      unfold Oper.wp; generalize a.eval = ρ at *; go_simp; exact hK g w' (fun _ _ => rfl) hM'
    · intro l g a w' K hp hc hl hG hM hK
      have e181 : a.eval (.tmp 181) = .pointer (some ⟨fb, 9, none⟩) := hG.of 181 6 (by kernel_rfl) (preAt hc 44 _ hp (by kernel_rfl))
      have kk := old_cell hM.1 hk9
      have hM' : w0.Since w0.heap.size w' ∧ ((upd l 7 true) 43 = false → (upd l 7 true) 18 = true → w'.cell? ⟨g 18, 0, none⟩ = some (.int .i64 (-1))) ∧ ((upd l 7 true) 43 = false → (upd l 7 true) 31 = true → w'.cell? ⟨g 31, 0, none⟩ = some (.int .i64 (-1))) ∧ ((upd l 7 true) 39 = true → w0.heap.size ≤ g 39 ∧ sp < g 39 ∧ RowOk w' (g 39) (zany 101 20)) ∧ (sp < w'.heap.size) ∧ (w.heap.size ≤ w'.heap.size) ∧ (∀ b, b < w.heap.size → b ≠ sp → w'.heap[b]? = w.heap[b]?) ∧ ∃ D', RowOk w' sp (vals 79 23 D') ∧ (∀ i, i ≠ 18 + ix → D' i = D i) ∧ ((upd l 7 true) 43 = true → D' (18 + ix) = .pointer (some ⟨g 39, 0, none⟩)) := hM
      clear hc hp hG hM
      unfold Oper.wp; generalize a.eval = ρ at *; go_simp; exact hK g w' (fun _ _ => rfl) hM'
    · intro l g a w' K hp hc hl hG hM hK
      have e182 : a.eval (.tmp 182) = .slice none 0 0 := hG.of 182 7 (by kernel_rfl) (preAt hc 44 _ hp (by kernel_rfl))
      have hM' : w0.Since w0.heap.size w' ∧ ((upd l 8 true) 43 = false → (upd l 8 true) 18 = true → w'.cell? ⟨g 18, 0, none⟩ = some (.int .i64 (-1))) ∧ ((upd l 8 true) 43 = false → (upd l 8 true) 31 = true → w'.cell? ⟨g 31, 0, none⟩ = some (.int .i64 (-1))) ∧ ((upd l 8 true) 39 = true → w0.heap.size ≤ g 39 ∧ sp < g 39 ∧ RowOk w' (g 39) (zany 101 20)) ∧ (sp < w'.heap.size) ∧ (w.heap.size ≤ w'.heap.size) ∧ (∀ b, b < w.heap.size → b ≠ sp → w'.heap[b]? = w.heap[b]?) ∧ ∃ D', RowOk w' sp (vals 79 23 D') ∧ (∀ i, i ≠ 18 + ix → D' i = D i) ∧ ((upd l 8 true) 43 = true → D' (18 + ix) = .pointer (some ⟨g 39, 0, none⟩)) := hM
      clear hc hp hG hM
      unfold Oper.wp; generalize a.eval = ρ at *; go_simp; exact hK g w' (fun _ _ => rfl) hM'
    · intro l g a w' K hp hc hl hG hM hK
      have e178 : a.eval (.tmp 178) = .slice (some ⟨g 3, 0, none⟩) 1 1 := hG.of 178 3 (by kernel_rfl) (preAt hc 44 _ hp (by kernel_rfl))
      have e183 : a.eval (.tmp 183) = .int .i64 0 := hG.of 183 8 (by kernel_rfl) (preAt hc 44 _ hp (by kernel_rfl))
      have ef : ∀ x, a.eval (.func x) = .func (.func x) #[] #[] := fun _ => rfl
      have HC := repeat23 (w := w') (b := g 3) (c := 1)
      have FIN : Hid (∀ gg w'', w'.Since w'.heap.size w'' → K (a.put (some 184) (.slice (some ⟨gg, 0, none⟩) 0 0)) w'') := fun gg w'' hsn => hK (upd g 9 gg) w'' (fun i hi => by
              match i, hi with
              | 0, _ => rfl
              | 1, _ => rfl
              | 2, _ => rfl
              | 3, _ => rfl
              | 4, _ => rfl
              | 5, _ => rfl
              | 6, _ => rfl
              | 7, _ => rfl
              | 8, _ => rfl
              | 9, hi => exact absurd hi (by rw [hl]; decide)
              | 10, _ => rfl
              | 11, _ => rfl
              | 12, _ => rfl
              | 13, _ => rfl
              | 14, _ => rfl
              | 15, _ => rfl
              | 16, _ => rfl
              | 17, _ => rfl
              | 18, _ => rfl
              | 19, _ => rfl
              | 20, _ => rfl
              | 21, _ => rfl
              | 22, _ => rfl
              | 23, _ => rfl
              | 24, _ => rfl
              | 25, _ => rfl
              | 26, _ => rfl
              | 27, _ => rfl
              | 28, _ => rfl
              | 29, _ => rfl
              | 30, _ => rfl
              | 31, _ => rfl
              | 32, _ => rfl
              | 33, _ => rfl
              | 34, _ => rfl
              | 35, _ => rfl
              | 36, _ => rfl
              | 37, _ => rfl
              | 38, hi => exact absurd hi (by rw [hc.not 38 44 hl (by kernel_rfl)]; decide)
              | 39, _ => rfl
              | 40, _ => rfl
              | 41, _ => rfl
              | 42, _ => rfl
              | 43, _ => rfl
              | _ + 44, _ => rfl) ⟨hM.1.trans ⟨hsn.os, hsn.tape, hsn.output, hsn.size, fun i hi => hsn.block i (Nat.lt_of_lt_of_le hi hM.1.size)⟩, fun h3 h' => by
        rw [upd_other _ _ (by omega)] at h' h3 ⊢
        exact old_cell hsn (hM.2.1 h3 h'), fun h3 h' => by
        rw [upd_other _ _ (by omega)] at h' h3 ⊢
        exact old_cell hsn (hM.2.2.1 h3 h'), fun h' => by
        rw [upd_other _ _ (by omega)] at h' ⊢
        obtain ⟨q1, q2, q3⟩ := hM.2.2.2.1 h'
        exact ⟨q1, q2, q3.of_block (hsn.block _ q3.lt)⟩, Nat.lt_of_lt_of_le hM.2.2.2.2.1 hsn.size, Nat.le_trans hM.2.2.2.2.2.1 hsn.size, fun b hb hne => (hsn.block b (Nat.lt_of_lt_of_le hb hM.2.2.2.2.2.1)).trans (hM.2.2.2.2.2.2.1 b hb hne), by
        obtain ⟨D', q1, q2, q3⟩ := hM.2.2.2.2.2.2.2
        exact ⟨D', q1.of_block (hsn.block _ hM.2.2.2.2.1), q2, fun h' => absurd h' (by rw [upd_other _ _ (by omega), hc.not 43 44 hl (by kernel_rfl)]; decide)⟩⟩
      clear hK hc hp hG hM
      unfold Oper.wp; generalize hρ : a.eval = ρ at *; go_simp
      refine Calls.mono HC ?_
      rintro e w'' ⟨gg, rfl, h⟩
      exact FIN.out gg w'' h
    · intro l g a w' K hp hc hl hG hM hK
      have ec : ∀ v, a.eval (.const v) = v := fun _ => rfl
      have hM' : w0.Since w0.heap.size w' ∧ ((upd l 10 true) 43 = false → (upd l 10 true) 18 = true → w'.cell? ⟨g 18, 0, none⟩ = some (.int .i64 (-1))) ∧ ((upd l 10 true) 43 = false → (upd l 10 true) 31 = true → w'.cell? ⟨g 31, 0, none⟩ = some (.int .i64 (-1))) ∧ ((upd l 10 true) 39 = true → w0.heap.size ≤ g 39 ∧ sp < g 39 ∧ RowOk w' (g 39) (zany 101 20)) ∧ (sp < w'.heap.size) ∧ (w.heap.size ≤ w'.heap.size) ∧ (∀ b, b < w.heap.size → b ≠ sp → w'.heap[b]? = w.heap[b]?) ∧ ∃ D', RowOk w' sp (vals 79 23 D') ∧ (∀ i, i ≠ 18 + ix → D' i = D i) ∧ ((upd l 10 true) 43 = true → D' (18 + ix) = .pointer (some ⟨g 39, 0, none⟩)) := hM
      clear hc hp hG hM
      unfold Oper.wp; generalize a.eval = ρ at *; go_simp; exact hK g w' (fun _ _ => rfl) hM'
    · intro l g a w' K hp hc hl hG hM hK
      have e185 : a.eval (.tmp 185) = .agg #[.int .i64 (-1), .int .i64 (-1)] := hG.of 185 10 (by kernel_rfl) (preAt hc 44 _ hp (by kernel_rfl))
      have hsn : w'.Since w'.heap.size (w'.alloc (.cells #[.int .i64 (-1), .int .i64 (-1)] 95)) := alloc_since _ _
      have fin := hK (upd g 11 w'.heap.size) (w'.alloc (.cells #[.int .i64 (-1), .int .i64 (-1)] 95)) (fun i hi => by
              match i, hi with
              | 0, _ => rfl
              | 1, _ => rfl
              | 2, _ => rfl
              | 3, _ => rfl
              | 4, _ => rfl
              | 5, _ => rfl
              | 6, _ => rfl
              | 7, _ => rfl
              | 8, _ => rfl
              | 9, _ => rfl
              | 10, _ => rfl
              | 11, hi => exact absurd hi (by rw [hl]; decide)
              | 12, _ => rfl
              | 13, _ => rfl
              | 14, _ => rfl
              | 15, _ => rfl
              | 16, _ => rfl
              | 17, _ => rfl
              | 18, _ => rfl
              | 19, _ => rfl
              | 20, _ => rfl
              | 21, _ => rfl
              | 22, _ => rfl
              | 23, _ => rfl
              | 24, _ => rfl
              | 25, _ => rfl
              | 26, _ => rfl
              | 27, _ => rfl
              | 28, _ => rfl
              | 29, _ => rfl
              | 30, _ => rfl
              | 31, _ => rfl
              | 32, _ => rfl
              | 33, _ => rfl
              | 34, _ => rfl
              | 35, _ => rfl
              | 36, _ => rfl
              | 37, _ => rfl
              | 38, _ => rfl
              | 39, _ => rfl
              | 40, _ => rfl
              | 41, _ => rfl
              | 42, _ => rfl
              | 43, _ => rfl
              | _ + 44, _ => rfl) ⟨hM.1.alloc hM.1.size _, fun h3 h' => by
        rw [upd_other _ _ (by omega)] at h' h3 ⊢
        exact old_cell hsn (hM.2.1 h3 h'), fun h3 h' => by
        rw [upd_other _ _ (by omega)] at h' h3 ⊢
        exact old_cell hsn (hM.2.2.1 h3 h'), fun h' => by
        rw [upd_other _ _ (by omega)] at h' ⊢
        obtain ⟨q1, q2, q3⟩ := hM.2.2.2.1 h'
        exact ⟨q1, q2, q3.of_block (hsn.block _ q3.lt)⟩, Nat.lt_of_lt_of_le hM.2.2.2.2.1 hsn.size, Nat.le_trans hM.2.2.2.2.2.1 hsn.size, fun b hb hne => (hsn.block b (Nat.lt_of_lt_of_le hb hM.2.2.2.2.2.1)).trans (hM.2.2.2.2.2.2.1 b hb hne), by
        obtain ⟨D', q1, q2, q3⟩ := hM.2.2.2.2.2.2.2
        exact ⟨D', q1.of_block (hsn.block _ hM.2.2.2.2.1), q2, fun h' => absurd h' (by rw [upd_other _ _ (by omega), hc.not 43 44 hl (by kernel_rfl)]; decide)⟩⟩
      clear hK hc hp hG hM hsn
      unfold Oper.wp; generalize a.eval = ρ at *; go_simp; exact fin
    · intro l g a w' K hp hc hl hG hM hK
      have e0 : a.eval (.tmp 0) = .pointer (some ⟨fb, 0, none⟩) := (hG.oldF hF 0 (by kernel_rfl) (by omega)).trans h0
      have hM' : w0.Since w0.heap.size w' ∧ ((upd l 12 true) 43 = false → (upd l 12 true) 18 = true → w'.cell? ⟨g 18, 0, none⟩ = some (.int .i64 (-1))) ∧ ((upd l 12 true) 43 = false → (upd l 12 true) 31 = true → w'.cell? ⟨g 31, 0, none⟩ = some (.int .i64 (-1))) ∧ ((upd l 12 true) 39 = true → w0.heap.size ≤ g 39 ∧ sp < g 39 ∧ RowOk w' (g 39) (zany 101 20)) ∧ (sp < w'.heap.size) ∧ (w.heap.size ≤ w'.heap.size) ∧ (∀ b, b < w.heap.size → b ≠ sp → w'.heap[b]? = w.heap[b]?) ∧ ∃ D', RowOk w' sp (vals 79 23 D') ∧ (∀ i, i ≠ 18 + ix → D' i = D i) ∧ ((upd l 12 true) 43 = true → D' (18 + ix) = .pointer (some ⟨g 39, 0, none⟩)) := hM
      clear hc hp hG hM
      unfold Oper.wp; generalize a.eval = ρ at *; go_simp; exact hK g w' (fun _ _ => rfl) hM'
    · intro l g a w' K hp hc hl hG hM hK
      have e187 : a.eval (.tmp 187) = .pointer (some ⟨fb, 0, none⟩) := hG.of 187 12 (by kernel_rfl) (preAt hc 44 _ hp (by kernel_rfl))
      have hM' : w0.Since w0.heap.size w' ∧ ((upd l 13 true) 43 = false → (upd l 13 true) 18 = true → w'.cell? ⟨g 18, 0, none⟩ = some (.int .i64 (-1))) ∧ ((upd l 13 true) 43 = false → (upd l 13 true) 31 = true → w'.cell? ⟨g 31, 0, none⟩ = some (.int .i64 (-1))) ∧ ((upd l 13 true) 39 = true → w0.heap.size ≤ g 39 ∧ sp < g 39 ∧ RowOk w' (g 39) (zany 101 20)) ∧ (sp < w'.heap.size) ∧ (w.heap.size ≤ w'.heap.size) ∧ (∀ b, b < w.heap.size → b ≠ sp → w'.heap[b]? = w.heap[b]?) ∧ ∃ D', RowOk w' sp (vals 79 23 D') ∧ (∀ i, i ≠ 18 + ix → D' i = D i) ∧ ((upd l 13 true) 43 = true → D' (18 + ix) = .pointer (some ⟨g 39, 0, none⟩)) := hM
      clear hc hp hG hM
      unfold Oper.wp; generalize a.eval = ρ at *; go_simp; exact hK g w' (fun _ _ => rfl) hM'
    · intro l g a w' K hp hc hl hG hM hK
      have e188 : a.eval (.tmp 188) = .pointer (some ⟨fb, 0, none⟩) := hG.of 188 13 (by kernel_rfl) (preAt hc 44 _ hp (by kernel_rfl))
      have hM' : w0.Since w0.heap.size w' ∧ ((upd l 14 true) 43 = false → (upd l 14 true) 18 = true → w'.cell? ⟨g 18, 0, none⟩ = some (.int .i64 (-1))) ∧ ((upd l 14 true) 43 = false → (upd l 14 true) 31 = true → w'.cell? ⟨g 31, 0, none⟩ = some (.int .i64 (-1))) ∧ ((upd l 14 true) 39 = true → w0.heap.size ≤ g 39 ∧ sp < g 39 ∧ RowOk w' (g 39) (zany 101 20)) ∧ (sp < w'.heap.size) ∧ (w.heap.size ≤ w'.heap.size) ∧ (∀ b, b < w.heap.size → b ≠ sp → w'.heap[b]? = w.heap[b]?) ∧ ∃ D', RowOk w' sp (vals 79 23 D') ∧ (∀ i, i ≠ 18 + ix → D' i = D i) ∧ ((upd l 14 true) 43 = true → D' (18 + ix) = .pointer (some ⟨g 39, 0, none⟩)) := hM
      clear hc hp hG hM
      unfold Oper.wp; generalize a.eval = ρ at *; go_simp; exact hK g w' (fun _ _ => rfl) hM'
    · intro l g a w' K hp hc hl hG hM hK
      have e189 : a.eval (.tmp 189) = .pointer (some ⟨fb, 9, none⟩) := hG.of 189 14 (by kernel_rfl) (preAt hc 44 _ hp (by kernel_rfl))
      have kk := old_cell hM.1 hk9
      have hM' : w0.Since w0.heap.size w' ∧ ((upd l 15 true) 43 = false → (upd l 15 true) 18 = true → w'.cell? ⟨g 18, 0, none⟩ = some (.int .i64 (-1))) ∧ ((upd l 15 true) 43 = false → (upd l 15 true) 31 = true → w'.cell? ⟨g 31, 0, none⟩ = some (.int .i64 (-1))) ∧ ((upd l 15 true) 39 = true → w0.heap.size ≤ g 39 ∧ sp < g 39 ∧ RowOk w' (g 39) (zany 101 20)) ∧ (sp < w'.heap.size) ∧ (w.heap.size ≤ w'.heap.size) ∧ (∀ b, b < w.heap.size → b ≠ sp → w'.heap[b]? = w.heap[b]?) ∧ ∃ D', RowOk w' sp (vals 79 23 D') ∧ (∀ i, i ≠ 18 + ix → D' i = D i) ∧ ((upd l 15 true) 43 = true → D' (18 + ix) = .pointer (some ⟨g 39, 0, none⟩)) := hM
      clear hc hp hG hM
      unfold Oper.wp; generalize a.eval = ρ at *; go_simp; exact hK g w' (fun _ _ => rfl) hM'
    · intro l g a w' K hp hc hl hG hM hK
      have e190 : a.eval (.tmp 190) = .slice none 0 0 := hG.of 190 15 (by kernel_rfl) (preAt hc 44 _ hp (by kernel_rfl))
      have hM' : w0.Since w0.heap.size w' ∧ ((upd l 16 true) 43 = false → (upd l 16 true) 18 = true → w'.cell? ⟨g 18, 0, none⟩ = some (.int .i64 (-1))) ∧ ((upd l 16 true) 43 = false → (upd l 16 true) 31 = true → w'.cell? ⟨g 31, 0, none⟩ = some (.int .i64 (-1))) ∧ ((upd l 16 true) 39 = true → w0.heap.size ≤ g 39 ∧ sp < g 39 ∧ RowOk w' (g 39) (zany 101 20)) ∧ (sp < w'.heap.size) ∧ (w.heap.size ≤ w'.heap.size) ∧ (∀ b, b < w.heap.size → b ≠ sp → w'.heap[b]? = w.heap[b]?) ∧ ∃ D', RowOk w' sp (vals 79 23 D') ∧ (∀ i, i ≠ 18 + ix → D' i = D i) ∧ ((upd l 16 true) 43 = true → D' (18 + ix) = .pointer (some ⟨g 39, 0, none⟩)) := hM
      clear hc hp hG hM
      unfold Oper.wp; generalize a.eval = ρ at *; go_simp; exact hK g w' (fun _ _ => rfl) hM'
    · intro l g a w' K hp hc hl hG hM hK
      have e186 : a.eval (.tmp 186) = .slice (some ⟨g 11, 0, none⟩) 1 1 := hG.of 186 11 (by kernel_rfl) (preAt hc 44 _ hp (by kernel_rfl))
      have e191 : a.eval (.tmp 191) = .int .i64 0 := hG.of 191 16 (by kernel_rfl) (preAt hc 44 _ hp (by kernel_rfl))
      have ef : ∀ x, a.eval (.func x) = .func (.func x) #[] #[] := fun _ => rfl
      have HC := repeat23 (w := w') (b := g 11) (c := 1)
      have FIN : Hid (∀ gg w'', w'.Since w'.heap.size w'' → K (a.put (some 192) (.slice (some ⟨gg, 0, none⟩) 0 0)) w'') := fun gg w'' hsn => hK (upd g 17 gg) w'' (fun i hi => by
              match i, hi with
              | 0, _ => rfl
              | 1, _ => rfl
              | 2, _ => rfl
              | 3, _ => rfl
              | 4, _ => rfl
              | 5, _ => rfl
              | 6, _ => rfl
              | 7, _ => rfl
              | 8, _ => rfl
              | 9, _ => rfl
              | 10, _ => rfl
              | 11, _ => rfl
              | 12, _ => rfl
              | 13, _ => rfl
              | 14, _ => rfl
              | 15, _ => rfl
              | 16, _ => rfl
              | 17, hi => exact absurd hi (by rw [hl]; decide)
              | 18, _ => rfl
              | 19, _ => rfl
              | 20, _ => rfl
              | 21, _ => rfl
              | 22, _ => rfl
              | 23, _ => rfl
              | 24, _ => rfl
              | 25, _ => rfl
              | 26, _ => rfl
              | 27, _ => rfl
              | 28, _ => rfl
              | 29, _ => rfl
              | 30, _ => rfl
              | 31, _ => rfl
              | 32, _ => rfl
              | 33, _ => rfl
              | 34, _ => rfl
              | 35, _ => rfl
              | 36, _ => rfl
              | 37, _ => rfl
              | 38, hi => exact absurd hi (by rw [hc.not 38 44 hl (by kernel_rfl)]; decide)
              | 39, _ => rfl
              | 40, _ => rfl
              | 41, _ => rfl
              | 42, _ => rfl
              | 43, _ => rfl
              | _ + 44, _ => rfl) ⟨hM.1.trans ⟨hsn.os, hsn.tape, hsn.output, hsn.size, fun i hi => hsn.block i (Nat.lt_of_lt_of_le hi hM.1.size)⟩, fun h3 h' => by
        rw [upd_other _ _ (by omega)] at h' h3 ⊢
        exact old_cell hsn (hM.2.1 h3 h'), fun h3 h' => by
        rw [upd_other _ _ (by omega)] at h' h3 ⊢
        exact old_cell hsn (hM.2.2.1 h3 h'), fun h' => by
        rw [upd_other _ _ (by omega)] at h' ⊢
        obtain ⟨q1, q2, q3⟩ := hM.2.2.2.1 h'
        exact ⟨q1, q2, q3.of_block (hsn.block _ q3.lt)⟩, Nat.lt_of_lt_of_le hM.2.2.2.2.1 hsn.size, Nat.le_trans hM.2.2.2.2.2.1 hsn.size, fun b hb hne => (hsn.block b (Nat.lt_of_lt_of_le hb hM.2.2.2.2.2.1)).trans (hM.2.2.2.2.2.2.1 b hb hne), by
        obtain ⟨D', q1, q2, q3⟩ := hM.2.2.2.2.2.2.2
        exact ⟨D', q1.of_block (hsn.block _ hM.2.2.2.2.1), q2, fun h' => absurd h' (by rw [upd_other _ _ (by omega), hc.not 43 44 hl (by kernel_rfl)]; decide)⟩⟩
      clear hK hc hp hG hM
      unfold Oper.wp; generalize hρ : a.eval = ρ at *; go_simp
      refine Calls.mono HC ?_
      rintro e w'' ⟨gg, rfl, h⟩
      exact FIN.out gg w'' h
    · intro l g a w' K hp hc hl hG hM hK
      have ec : ∀ v, a.eval (.const v) = v := fun _ => rfl
      have hsn : w'.Since w'.heap.size (w'.alloc (.cells #[.int .i64 (-1)] 3)) := alloc_since _ _
      have fin := hK (upd g 18 w'.heap.size) (w'.alloc (.cells #[.int .i64 (-1)] 3)) (fun i hi => by
              match i, hi with
              | 0, _ => rfl
              | 1, _ => rfl
              | 2, _ => rfl
              | 3, _ => rfl
              | 4, _ => rfl
              | 5, _ => rfl
              | 6, _ => rfl
              | 7, _ => rfl
              | 8, _ => rfl
              | 9, _ => rfl
              | 10, _ => rfl
              | 11, _ => rfl
              | 12, _ => rfl
              | 13, _ => rfl
              | 14, _ => rfl
              | 15, _ => rfl
              | 16, _ => rfl
              | 17, _ => rfl
              | 18, hi => exact absurd hi (by rw [hl]; decide)
              | 19, _ => rfl
              | 20, _ => rfl
              | 21, _ => rfl
              | 22, _ => rfl
              | 23, _ => rfl
              | 24, _ => rfl
              | 25, _ => rfl
              | 26, _ => rfl
              | 27, _ => rfl
              | 28, _ => rfl
              | 29, _ => rfl
              | 30, _ => rfl
              | 31, _ => rfl
              | 32, _ => rfl
              | 33, _ => rfl
              | 34, _ => rfl
              | 35, _ => rfl
              | 36, _ => rfl
              | 37, _ => rfl
              | 38, _ => rfl
              | 39, _ => rfl
              | 40, _ => rfl
              | 41, _ => rfl
              | 42, _ => rfl
              | 43, _ => rfl
              | _ + 44, _ => rfl) ⟨hM.1.alloc hM.1.size _, fun _ _ => by rw [upd_same]; exact news1 w' (.int .i64 (-1)) 3 0 _ rfl, fun h3 h' => by
        rw [upd_other _ _ (by omega)] at h' h3 ⊢
        exact old_cell hsn (hM.2.2.1 h3 h'), fun h' => by
        rw [upd_other _ _ (by omega)] at h' ⊢
        obtain ⟨q1, q2, q3⟩ := hM.2.2.2.1 h'
        exact ⟨q1, q2, q3.of_block (hsn.block _ q3.lt)⟩, Nat.lt_of_lt_of_le hM.2.2.2.2.1 hsn.size, Nat.le_trans hM.2.2.2.2.2.1 hsn.size, fun b hb hne => (hsn.block b (Nat.lt_of_lt_of_le hb hM.2.2.2.2.2.1)).trans (hM.2.2.2.2.2.2.1 b hb hne), by
        obtain ⟨D', q1, q2, q3⟩ := hM.2.2.2.2.2.2.2
        exact ⟨D', q1.of_block (hsn.block _ hM.2.2.2.2.1), q2, fun h' => absurd h' (by rw [upd_other _ _ (by omega), hc.not 43 44 hl (by kernel_rfl)]; decide)⟩⟩
      clear hK hc hp hG hM hsn
      unfold Oper.wp; generalize a.eval = ρ at *; go_simp; exact fin
    · intro l g a w' K hp hc hl hG hM hK
      have e0 : a.eval (.tmp 0) = .pointer (some ⟨fb, 0, none⟩) := (hG.oldF hF 0 (by kernel_rfl) (by omega)).trans h0
      have hM' : w0.Since w0.heap.size w' ∧ ((upd l 19 true) 43 = false → (upd l 19 true) 18 = true → w'.cell? ⟨g 18, 0, none⟩ = some (.int .i64 (-1))) ∧ ((upd l 19 true) 43 = false → (upd l 19 true) 31 = true → w'.cell? ⟨g 31, 0, none⟩ = some (.int .i64 (-1))) ∧ ((upd l 19 true) 39 = true → w0.heap.size ≤ g 39 ∧ sp < g 39 ∧ RowOk w' (g 39) (zany 101 20)) ∧ (sp < w'.heap.size) ∧ (w.heap.size ≤ w'.heap.size) ∧ (∀ b, b < w.heap.size → b ≠ sp → w'.heap[b]? = w.heap[b]?) ∧ ∃ D', RowOk w' sp (vals 79 23 D') ∧ (∀ i, i ≠ 18 + ix → D' i = D i) ∧ ((upd l 19 true) 43 = true → D' (18 + ix) = .pointer (some ⟨g 39, 0, none⟩)) := hM
      clear hc hp hG hM
      unfold Oper.wp; generalize a.eval = ρ at *; go_simp; exact hK g w' (fun _ _ => rfl) hM'
    · intro l g a w' K hp hc hl hG hM hK
      have e194 : a.eval (.tmp 194) = .pointer (some ⟨fb, 0, none⟩) := hG.of 194 19 (by kernel_rfl) (preAt hc 44 _ hp (by kernel_rfl))
      have hM' : w0.Since w0.heap.size w' ∧ ((upd l 20 true) 43 = false → (upd l 20 true) 18 = true → w'.cell? ⟨g 18, 0, none⟩ = some (.int .i64 (-1))) ∧ ((upd l 20 true) 43 = false → (upd l 20 true) 31 = true → w'.cell? ⟨g 31, 0, none⟩ = some (.int .i64 (-1))) ∧ ((upd l 20 true) 39 = true → w0.heap.size ≤ g 39 ∧ sp < g 39 ∧ RowOk w' (g 39) (zany 101 20)) ∧ (sp < w'.heap.size) ∧ (w.heap.size ≤ w'.heap.size) ∧ (∀ b, b < w.heap.size → b ≠ sp → w'.heap[b]? = w.heap[b]?) ∧ ∃ D', RowOk w' sp (vals 79 23 D') ∧ (∀ i, i ≠ 18 + ix → D' i = D i) ∧ ((upd l 20 true) 43 = true → D' (18 + ix) = .pointer (some ⟨g 39, 0, none⟩)) := hM
      clear hc hp hG hM
      unfold Oper.wp; generalize a.eval = ρ at *; go_simp; exact hK g w' (fun _ _ => rfl) hM'
    · intro l g a w' K hp hc hl hG hM hK
      have e195 : a.eval (.tmp 195) = .pointer (some ⟨fb, 0, none⟩) := hG.of 195 20 (by kernel_rfl) (preAt hc 44 _ hp (by kernel_rfl))
      have hM' : w0.Since w0.heap.size w' ∧ ((upd l 21 true) 43 = false → (upd l 21 true) 18 = true → w'.cell? ⟨g 18, 0, none⟩ = some (.int .i64 (-1))) ∧ ((upd l 21 true) 43 = false → (upd l 21 true) 31 = true → w'.cell? ⟨g 31, 0, none⟩ = some (.int .i64 (-1))) ∧ ((upd l 21 true) 39 = true → w0.heap.size ≤ g 39 ∧ sp < g 39 ∧ RowOk w' (g 39) (zany 101 20)) ∧ (sp < w'.heap.size) ∧ (w.heap.size ≤ w'.heap.size) ∧ (∀ b, b < w.heap.size → b ≠ sp → w'.heap[b]? = w.heap[b]?) ∧ ∃ D', RowOk w' sp (vals 79 23 D') ∧ (∀ i, i ≠ 18 + ix → D' i = D i) ∧ ((upd l 21 true) 43 = true → D' (18 + ix) = .pointer (some ⟨g 39, 0, none⟩)) := hM
      clear hc hp hG hM
      unfold Oper.wp; generalize a.eval = ρ at *; go_simp; exact hK g w' (fun _ _ => rfl) hM'
    · intro l g a w' K hp hc hl hG hM hK
      have e196 : a.eval (.tmp 196) = .pointer (some ⟨fb, 9, none⟩) := hG.of 196 21 (by kernel_rfl) (preAt hc 44 _ hp (by kernel_rfl))
      have kk := old_cell hM.1 hk9
      have hM' : w0.Since w0.heap.size w' ∧ ((upd l 22 true) 43 = false → (upd l 22 true) 18 = true → w'.cell? ⟨g 18, 0, none⟩ = some (.int .i64 (-1))) ∧ ((upd l 22 true) 43 = false → (upd l 22 true) 31 = true → w'.cell? ⟨g 31, 0, none⟩ = some (.int .i64 (-1))) ∧ ((upd l 22 true) 39 = true → w0.heap.size ≤ g 39 ∧ sp < g 39 ∧ RowOk w' (g 39) (zany 101 20)) ∧ (sp < w'.heap.size) ∧ (w.heap.size ≤ w'.heap.size) ∧ (∀ b, b < w.heap.size → b ≠ sp → w'.heap[b]? = w.heap[b]?) ∧ ∃ D', RowOk w' sp (vals 79 23 D') ∧ (∀ i, i ≠ 18 + ix → D' i = D i) ∧ ((upd l 22 true) 43 = true → D' (18 + ix) = .pointer (some ⟨g 39, 0, none⟩)) := hM
      clear hc hp hG hM
      unfold Oper.wp; generalize a.eval = ρ at *; go_simp; exact hK g w' (fun _ _ => rfl) hM'
    · intro l g a w' K hp hc hl hG hM hK
      have e197 : a.eval (.tmp 197) = .slice none 0 0 := hG.of 197 22 (by kernel_rfl) (preAt hc 44 _ hp (by kernel_rfl))
      have hM' : w0.Since w0.heap.size w' ∧ ((upd l 23 true) 43 = false → (upd l 23 true) 18 = true → w'.cell? ⟨g 18, 0, none⟩ = some (.int .i64 (-1))) ∧ ((upd l 23 true) 43 = false → (upd l 23 true) 31 = true → w'.cell? ⟨g 31, 0, none⟩ = some (.int .i64 (-1))) ∧ ((upd l 23 true) 39 = true → w0.heap.size ≤ g 39 ∧ sp < g 39 ∧ RowOk w' (g 39) (zany 101 20)) ∧ (sp < w'.heap.size) ∧ (w.heap.size ≤ w'.heap.size) ∧ (∀ b, b < w.heap.size → b ≠ sp → w'.heap[b]? = w.heap[b]?) ∧ ∃ D', RowOk w' sp (vals 79 23 D') ∧ (∀ i, i ≠ 18 + ix → D' i = D i) ∧ ((upd l 23 true) 43 = true → D' (18 + ix) = .pointer (some ⟨g 39, 0, none⟩)) := hM
      clear hc hp hG hM
      unfold Oper.wp; generalize a.eval = ρ at *; go_simp; exact hK g w' (fun _ _ => rfl) hM'
    · intro l g a w' K hp hc hl hG hM hK
      have e193 : a.eval (.tmp 193) = .slice (some ⟨g 18, 0, none⟩) 1 1 := hG.of 193 18 (by kernel_rfl) (preAt hc 44 _ hp (by kernel_rfl))
      have e198 : a.eval (.tmp 198) = .int .i64 0 := hG.of 198 23 (by kernel_rfl) (preAt hc 44 _ hp (by kernel_rfl))
      have ef : ∀ x, a.eval (.func x) = .func (.func x) #[] #[] := fun _ => rfl
      have h4 : l 18 = true := preAt hc 44 _ hp (by kernel_rfl)
      have HC := repeat20 (w := w') (b := g 18) (c := 1) (-1) 0 (by omega) (hM.2.1 (hc.not 43 44 hl (by kernel_rfl)) h4)
      have FIN : Hid (∀ w'', w'.Since w'.heap.size w'' → K (a.put (some 199) (.slice (some ⟨w'.heap.size, 0, none⟩) 0 0)) w'') := fun w'' hsn => hK (upd g 24 w'.heap.size) w'' (fun i hi => by
              match i, hi with
              | 0, _ => rfl
              | 1, _ => rfl
              | 2, _ => rfl
              | 3, _ => rfl
              | 4, _ => rfl
              | 5, _ => rfl
              | 6, _ => rfl
              | 7, _ => rfl
              | 8, _ => rfl
              | 9, _ => rfl
              | 10, _ => rfl
              | 11, _ => rfl
              | 12, _ => rfl
              | 13, _ => rfl
              | 14, _ => rfl
              | 15, _ => rfl
              | 16, _ => rfl
              | 17, _ => rfl
              | 18, _ => rfl
              | 19, _ => rfl
              | 20, _ => rfl
              | 21, _ => rfl
              | 22, _ => rfl
              | 23, _ => rfl
              | 24, hi => exact absurd hi (by rw [hl]; decide)
              | 25, _ => rfl
              | 26, _ => rfl
              | 27, _ => rfl
              | 28, _ => rfl
              | 29, _ => rfl
              | 30, _ => rfl
              | 31, _ => rfl
              | 32, _ => rfl
              | 33, _ => rfl
              | 34, _ => rfl
              | 35, _ => rfl
              | 36, _ => rfl
              | 37, _ => rfl
              | 38, hi => exact absurd hi (by rw [hc.not 38 44 hl (by kernel_rfl)]; decide)
              | 39, _ => rfl
              | 40, _ => rfl
              | 41, _ => rfl
              | 42, _ => rfl
              | 43, _ => rfl
              | _ + 44, _ => rfl) ⟨hM.1.trans ⟨hsn.os, hsn.tape, hsn.output, hsn.size, fun i hi => hsn.block i (Nat.lt_of_lt_of_le hi hM.1.size)⟩, fun h3 h' => by
        rw [upd_other _ _ (by omega)] at h' h3 ⊢
        exact old_cell hsn (hM.2.1 h3 h'), fun h3 h' => by
        rw [upd_other _ _ (by omega)] at h' h3 ⊢
        exact old_cell hsn (hM.2.2.1 h3 h'), fun h' => by
        rw [upd_other _ _ (by omega)] at h' ⊢
        obtain ⟨q1, q2, q3⟩ := hM.2.2.2.1 h'
        exact ⟨q1, q2, q3.of_block (hsn.block _ q3.lt)⟩, Nat.lt_of_lt_of_le hM.2.2.2.2.1 hsn.size, Nat.le_trans hM.2.2.2.2.2.1 hsn.size, fun b hb hne => (hsn.block b (Nat.lt_of_lt_of_le hb hM.2.2.2.2.2.1)).trans (hM.2.2.2.2.2.2.1 b hb hne), by
        obtain ⟨D', q1, q2, q3⟩ := hM.2.2.2.2.2.2.2
        exact ⟨D', q1.of_block (hsn.block _ hM.2.2.2.2.1), q2, fun h' => absurd h' (by rw [upd_other _ _ (by omega), hc.not 43 44 hl (by kernel_rfl)]; decide)⟩⟩
      clear hK hc hp hG hM
      unfold Oper.wp; generalize hρ : a.eval = ρ at *; go_simp
      refine Calls.mono HC ?_
      rintro e w'' ⟨rfl, h, _⟩
      exact FIN.out w'' h
    · intro l g a w' K hp hc hl hG hM hK
      have e0 : a.eval (.tmp 0) = .pointer (some ⟨fb, 0, none⟩) := (hG.oldF hF 0 (by kernel_rfl) (by omega)).trans h0
      have hM' : w0.Since w0.heap.size w' ∧ ((upd l 25 true) 43 = false → (upd l 25 true) 18 = true → w'.cell? ⟨g 18, 0, none⟩ = some (.int .i64 (-1))) ∧ ((upd l 25 true) 43 = false → (upd l 25 true) 31 = true → w'.cell? ⟨g 31, 0, none⟩ = some (.int .i64 (-1))) ∧ ((upd l 25 true) 39 = true → w0.heap.size ≤ g 39 ∧ sp < g 39 ∧ RowOk w' (g 39) (zany 101 20)) ∧ (sp < w'.heap.size) ∧ (w.heap.size ≤ w'.heap.size) ∧ (∀ b, b < w.heap.size → b ≠ sp → w'.heap[b]? = w.heap[b]?) ∧ ∃ D', RowOk w' sp (vals 79 23 D') ∧ (∀ i, i ≠ 18 + ix → D' i = D i) ∧ ((upd l 25 true) 43 = true → D' (18 + ix) = .pointer (some ⟨g 39, 0, none⟩)) := hM
      clear hc hp hG hM
      unfold Oper.wp; generalize a.eval = ρ at *; go_simp; exact hK g w' (fun _ _ => rfl) hM'
    · intro l g a w' K hp hc hl hG hM hK
      have e200 : a.eval (.tmp 200) = .pointer (some ⟨fb, 0, none⟩) := hG.of 200 25 (by kernel_rfl) (preAt hc 44 _ hp (by kernel_rfl))
      have hM' : w0.Since w0.heap.size w' ∧ ((upd l 26 true) 43 = false → (upd l 26 true) 18 = true → w'.cell? ⟨g 18, 0, none⟩ = some (.int .i64 (-1))) ∧ ((upd l 26 true) 43 = false → (upd l 26 true) 31 = true → w'.cell? ⟨g 31, 0, none⟩ = some (.int .i64 (-1))) ∧ ((upd l 26 true) 39 = true → w0.heap.size ≤ g 39 ∧ sp < g 39 ∧ RowOk w' (g 39) (zany 101 20)) ∧ (sp < w'.heap.size) ∧ (w.heap.size ≤ w'.heap.size) ∧ (∀ b, b < w.heap.size → b ≠ sp → w'.heap[b]? = w.heap[b]?) ∧ ∃ D', RowOk w' sp (vals 79 23 D') ∧ (∀ i, i ≠ 18 + ix → D' i = D i) ∧ ((upd l 26 true) 43 = true → D' (18 + ix) = .pointer (some ⟨g 39, 0, none⟩)) := hM
      clear hc hp hG hM
      unfold Oper.wp; generalize a.eval = ρ at *; go_simp; exact hK g w' (fun _ _ => rfl) hM'
    · intro l g a w' K hp hc hl hG hM hK
      have e201 : a.eval (.tmp 201) = .pointer (some ⟨fb, 0, none⟩) := hG.of 201 26 (by kernel_rfl) (preAt hc 44 _ hp (by kernel_rfl))
      have hM' : w0.Since w0.heap.size w' ∧ ((upd l 27 true) 43 = false → (upd l 27 true) 18 = true → w'.cell? ⟨g 18, 0, none⟩ = some (.int .i64 (-1))) ∧ ((upd l 27 true) 43 = false → (upd l 27 true) 31 = true → w'.cell? ⟨g 31, 0, none⟩ = some (.int .i64 (-1))) ∧ ((upd l 27 true) 39 = true → w0.heap.size ≤ g 39 ∧ sp < g 39 ∧ RowOk w' (g 39) (zany 101 20)) ∧ (sp < w'.heap.size) ∧ (w.heap.size ≤ w'.heap.size) ∧ (∀ b, b < w.heap.size → b ≠ sp → w'.heap[b]? = w.heap[b]?) ∧ ∃ D', RowOk w' sp (vals 79 23 D') ∧ (∀ i, i ≠ 18 + ix → D' i = D i) ∧ ((upd l 27 true) 43 = true → D' (18 + ix) = .pointer (some ⟨g 39, 0, none⟩)) := hM
      clear hc hp hG hM
      unfold Oper.wp; generalize a.eval = ρ at *; go_simp; exact hK g w' (fun _ _ => rfl) hM'
    · intro l g a w' K hp hc hl hG hM hK
      have e202 : a.eval (.tmp 202) = .pointer (some ⟨fb, 10, none⟩) := hG.of 202 27 (by kernel_rfl) (preAt hc 44 _ hp (by kernel_rfl))
      have kk := old_cell hM.1 hk10
      have hM' : w0.Since w0.heap.size w' ∧ ((upd l 28 true) 43 = false → (upd l 28 true) 18 = true → w'.cell? ⟨g 18, 0, none⟩ = some (.int .i64 (-1))) ∧ ((upd l 28 true) 43 = false → (upd l 28 true) 31 = true → w'.cell? ⟨g 31, 0, none⟩ = some (.int .i64 (-1))) ∧ ((upd l 28 true) 39 = true → w0.heap.size ≤ g 39 ∧ sp < g 39 ∧ RowOk w' (g 39) (zany 101 20)) ∧ (sp < w'.heap.size) ∧ (w.heap.size ≤ w'.heap.size) ∧ (∀ b, b < w.heap.size → b ≠ sp → w'.heap[b]? = w.heap[b]?) ∧ ∃ D', RowOk w' sp (vals 79 23 D') ∧ (∀ i, i ≠ 18 + ix → D' i = D i) ∧ ((upd l 28 true) 43 = true → D' (18 + ix) = .pointer (some ⟨g 39, 0, none⟩)) := hM
      clear hc hp hG hM
      unfold Oper.wp; generalize a.eval = ρ at *; go_simp; exact hK g w' (fun _ _ => rfl) hM'
    · intro l g a w' K hp hc hl hG hM hK
      have e203 : a.eval (.tmp 203) = .slice none 0 0 := hG.of 203 28 (by kernel_rfl) (preAt hc 44 _ hp (by kernel_rfl))
      have hM' : w0.Since w0.heap.size w' ∧ ((upd l 29 true) 43 = false → (upd l 29 true) 18 = true → w'.cell? ⟨g 18, 0, none⟩ = some (.int .i64 (-1))) ∧ ((upd l 29 true) 43 = false → (upd l 29 true) 31 = true → w'.cell? ⟨g 31, 0, none⟩ = some (.int .i64 (-1))) ∧ ((upd l 29 true) 39 = true → w0.heap.size ≤ g 39 ∧ sp < g 39 ∧ RowOk w' (g 39) (zany 101 20)) ∧ (sp < w'.heap.size) ∧ (w.heap.size ≤ w'.heap.size) ∧ (∀ b, b < w.heap.size → b ≠ sp → w'.heap[b]? = w.heap[b]?) ∧ ∃ D', RowOk w' sp (vals 79 23 D') ∧ (∀ i, i ≠ 18 + ix → D' i = D i) ∧ ((upd l 29 true) 43 = true → D' (18 + ix) = .pointer (some ⟨g 39, 0, none⟩)) := hM
      clear hc hp hG hM
      unfold Oper.wp; generalize a.eval = ρ at *; go_simp; exact hK g w' (fun _ _ => rfl) hM'
    · intro l g a w' K hp hc hl hG hM hK
      have e204 : a.eval (.tmp 204) = .int .i64 0 := hG.of 204 29 (by kernel_rfl) (preAt hc 44 _ hp (by kernel_rfl))
      refine op_make mty46 (.tmp 204) (.tmp 204) rfl 0 0 e204 e204 (Nat.le_refl _) (by omega) ?_
      have hsn : w'.Since w'.heap.size (w'.alloc (.cells (madeCells #[.int .i64 0] 0) 3)) := alloc_since _ _
      exact hK (upd g 30 w'.heap.size) _ (fun i hi => by
              match i, hi with
              | 0, _ => rfl
              | 1, _ => rfl
              | 2, _ => rfl
              | 3, _ => rfl
              | 4, _ => rfl
              | 5, _ => rfl
              | 6, _ => rfl
              | 7, _ => rfl
              | 8, _ => rfl
              | 9, _ => rfl
              | 10, _ => rfl
              | 11, _ => rfl
              | 12, _ => rfl
              | 13, _ => rfl
              | 14, _ => rfl
              | 15, _ => rfl
              | 16, _ => rfl
              | 17, _ => rfl
              | 18, _ => rfl
              | 19, _ => rfl
              | 20, _ => rfl
              | 21, _ => rfl
              | 22, _ => rfl
              | 23, _ => rfl
              | 24, _ => rfl
              | 25, _ => rfl
              | 26, _ => rfl
              | 27, _ => rfl
              | 28, _ => rfl
              | 29, _ => rfl
              | 30, hi => exact absurd hi (by rw [hl]; decide)
              | 31, _ => rfl
              | 32, _ => rfl
              | 33, _ => rfl
              | 34, _ => rfl
              | 35, _ => rfl
              | 36, _ => rfl
              | 37, _ => rfl
              | 38, hi => exact absurd hi (by rw [hc.not 38 44 hl (by kernel_rfl)]; decide)
              | 39, _ => rfl
              | 40, _ => rfl
              | 41, _ => rfl
              | 42, _ => rfl
              | 43, _ => rfl
              | _ + 44, _ => rfl) ⟨hM.1.alloc hM.1.size _, fun h3 h' => by
        rw [upd_other _ _ (by omega)] at h' h3 ⊢
        exact old_cell hsn (hM.2.1 h3 h'), fun h3 h' => by
        rw [upd_other _ _ (by omega)] at h' h3 ⊢
        exact old_cell hsn (hM.2.2.1 h3 h'), fun h' => by
        rw [upd_other _ _ (by omega)] at h' ⊢
        obtain ⟨q1, q2, q3⟩ := hM.2.2.2.1 h'
        exact ⟨q1, q2, q3.of_block (hsn.block _ q3.lt)⟩, Nat.lt_of_lt_of_le hM.2.2.2.2.1 hsn.size, Nat.le_trans hM.2.2.2.2.2.1 hsn.size, fun b hb hne => (hsn.block b (Nat.lt_of_lt_of_le hb hM.2.2.2.2.2.1)).trans (hM.2.2.2.2.2.2.1 b hb hne), by
        obtain ⟨D', q1, q2, q3⟩ := hM.2.2.2.2.2.2.2
        exact ⟨D', q1.of_block (hsn.block _ hM.2.2.2.2.1), q2, fun h' => absurd h' (by rw [upd_other _ _ (by omega), hc.not 43 44 hl (by kernel_rfl)]; decide)⟩⟩
    · intro l g a w' K hp hc hl hG hM hK
      have ec : ∀ v, a.eval (.const v) = v := fun _ => rfl
      have hsn : w'.Since w'.heap.size (w'.alloc (.cells #[.int .i64 (-1)] 3)) := alloc_since _ _
      have fin := hK (upd g 31 w'.heap.size) (w'.alloc (.cells #[.int .i64 (-1)] 3)) (fun i hi => by
              match i, hi with
              | 0, _ => rfl
              | 1, _ => rfl
              | 2, _ => rfl
              | 3, _ => rfl
              | 4, _ => rfl
              | 5, _ => rfl
              | 6, _ => rfl
              | 7, _ => rfl
              | 8, _ => rfl
              | 9, _ => rfl
              | 10, _ => rfl
              | 11, _ => rfl
              | 12, _ => rfl
              | 13, _ => rfl
              | 14, _ => rfl
              | 15, _ => rfl
              | 16, _ => rfl
              | 17, _ => rfl
              | 18, _ => rfl
              | 19, _ => rfl
              | 20, _ => rfl
              | 21, _ => rfl
              | 22, _ => rfl
              | 23, _ => rfl
              | 24, _ => rfl
              | 25, _ => rfl
              | 26, _ => rfl
              | 27, _ => rfl
              | 28, _ => rfl
              | 29, _ => rfl
              | 30, _ => rfl
              | 31, hi => exact absurd hi (by rw [hl]; decide)
              | 32, _ => rfl
              | 33, _ => rfl
              | 34, _ => rfl
              | 35, _ => rfl
              | 36, _ => rfl
              | 37, _ => rfl
              | 38, _ => rfl
              | 39, _ => rfl
              | 40, _ => rfl
              | 41, _ => rfl
              | 42, _ => rfl
              | 43, _ => rfl
              | _ + 44, _ => rfl) ⟨hM.1.alloc hM.1.size _, fun h3 h' => by
        rw [upd_other _ _ (by omega)] at h' h3 ⊢
        exact old_cell hsn (hM.2.1 h3 h'), fun _ _ => by rw [upd_same]; exact news1 w' (.int .i64 (-1)) 3 0 _ rfl, fun h' => by
        rw [upd_other _ _ (by omega)] at h' ⊢
        obtain ⟨q1, q2, q3⟩ := hM.2.2.2.1 h'
        exact ⟨q1, q2, q3.of_block (hsn.block _ q3.lt)⟩, Nat.lt_of_lt_of_le hM.2.2.2.2.1 hsn.size, Nat.le_trans hM.2.2.2.2.2.1 hsn.size, fun b hb hne => (hsn.block b (Nat.lt_of_lt_of_le hb hM.2.2.2.2.2.1)).trans (hM.2.2.2.2.2.2.1 b hb hne), by
        obtain ⟨D', q1, q2, q3⟩ := hM.2.2.2.2.2.2.2
        exact ⟨D', q1.of_block (hsn.block _ hM.2.2.2.2.1), q2, fun h' => absurd h' (by rw [upd_other _ _ (by omega), hc.not 43 44 hl (by kernel_rfl)]; decide)⟩⟩
      clear hK hc hp hG hM hsn
      unfold Oper.wp; generalize a.eval = ρ at *; go_simp; exact fin
    · intro l g a w' K hp hc hl hG hM hK
      have e0 : a.eval (.tmp 0) = .pointer (some ⟨fb, 0, none⟩) := (hG.oldF hF 0 (by kernel_rfl) (by omega)).trans h0
      have hM' : w0.Since w0.heap.size w' ∧ ((upd l 32 true) 43 = false → (upd l 32 true) 18 = true → w'.cell? ⟨g 18, 0, none⟩ = some (.int .i64 (-1))) ∧ ((upd l 32 true) 43 = false → (upd l 32 true) 31 = true → w'.cell? ⟨g 31, 0, none⟩ = some (.int .i64 (-1))) ∧ ((upd l 32 true) 39 = true → w0.heap.size ≤ g 39 ∧ sp < g 39 ∧ RowOk w' (g 39) (zany 101 20)) ∧ (sp < w'.heap.size) ∧ (w.heap.size ≤ w'.heap.size) ∧ (∀ b, b < w.heap.size → b ≠ sp → w'.heap[b]? = w.heap[b]?) ∧ ∃ D', RowOk w' sp (vals 79 23 D') ∧ (∀ i, i ≠ 18 + ix → D' i = D i) ∧ ((upd l 32 true) 43 = true → D' (18 + ix) = .pointer (some ⟨g 39, 0, none⟩)) := hM
      clear hc hp hG hM
      unfold Oper.wp; generalize a.eval = ρ at *; go_simp; exact hK g w' (fun _ _ => rfl) hM'
    · intro l g a w' K hp hc hl hG hM hK
      have e207 : a.eval (.tmp 207) = .pointer (some ⟨fb, 0, none⟩) := hG.of 207 32 (by kernel_rfl) (preAt hc 44 _ hp (by kernel_rfl))
      have hM' : w0.Since w0.heap.size w' ∧ ((upd l 33 true) 43 = false → (upd l 33 true) 18 = true → w'.cell? ⟨g 18, 0, none⟩ = some (.int .i64 (-1))) ∧ ((upd l 33 true) 43 = false → (upd l 33 true) 31 = true → w'.cell? ⟨g 31, 0, none⟩ = some (.int .i64 (-1))) ∧ ((upd l 33 true) 39 = true → w0.heap.size ≤ g 39 ∧ sp < g 39 ∧ RowOk w' (g 39) (zany 101 20)) ∧ (sp < w'.heap.size) ∧ (w.heap.size ≤ w'.heap.size) ∧ (∀ b, b < w.heap.size → b ≠ sp → w'.heap[b]? = w.heap[b]?) ∧ ∃ D', RowOk w' sp (vals 79 23 D') ∧ (∀ i, i ≠ 18 + ix → D' i = D i) ∧ ((upd l 33 true) 43 = true → D' (18 + ix) = .pointer (some ⟨g 39, 0, none⟩)) := hM
      clear hc hp hG hM
      unfold Oper.wp; generalize a.eval = ρ at *; go_simp; exact hK g w' (fun _ _ => rfl) hM'
    · intro l g a w' K hp hc hl hG hM hK
      have e208 : a.eval (.tmp 208) = .pointer (some ⟨fb, 0, none⟩) := hG.of 208 33 (by kernel_rfl) (preAt hc 44 _ hp (by kernel_rfl))
      have hM' : w0.Since w0.heap.size w' ∧ ((upd l 34 true) 43 = false → (upd l 34 true) 18 = true → w'.cell? ⟨g 18, 0, none⟩ = some (.int .i64 (-1))) ∧ ((upd l 34 true) 43 = false → (upd l 34 true) 31 = true → w'.cell? ⟨g 31, 0, none⟩ = some (.int .i64 (-1))) ∧ ((upd l 34 true) 39 = true → w0.heap.size ≤ g 39 ∧ sp < g 39 ∧ RowOk w' (g 39) (zany 101 20)) ∧ (sp < w'.heap.size) ∧ (w.heap.size ≤ w'.heap.size) ∧ (∀ b, b < w.heap.size → b ≠ sp → w'.heap[b]? = w.heap[b]?) ∧ ∃ D', RowOk w' sp (vals 79 23 D') ∧ (∀ i, i ≠ 18 + ix → D' i = D i) ∧ ((upd l 34 true) 43 = true → D' (18 + ix) = .pointer (some ⟨g 39, 0, none⟩)) := hM
      clear hc hp hG hM
      unfold Oper.wp; generalize a.eval = ρ at *; go_simp; exact hK g w' (fun _ _ => rfl) hM'
    · intro l g a w' K hp hc hl hG hM hK
      have e209 : a.eval (.tmp 209) = .pointer (some ⟨fb, 10, none⟩) := hG.of 209 34 (by kernel_rfl) (preAt hc 44 _ hp (by kernel_rfl))
      have kk := old_cell hM.1 hk10
      have hM' : w0.Since w0.heap.size w' ∧ ((upd l 35 true) 43 = false → (upd l 35 true) 18 = true → w'.cell? ⟨g 18, 0, none⟩ = some (.int .i64 (-1))) ∧ ((upd l 35 true) 43 = false → (upd l 35 true) 31 = true → w'.cell? ⟨g 31, 0, none⟩ = some (.int .i64 (-1))) ∧ ((upd l 35 true) 39 = true → w0.heap.size ≤ g 39 ∧ sp < g 39 ∧ RowOk w' (g 39) (zany 101 20)) ∧ (sp < w'.heap.size) ∧ (w.heap.size ≤ w'.heap.size) ∧ (∀ b, b < w.heap.size → b ≠ sp → w'.heap[b]? = w.heap[b]?) ∧ ∃ D', RowOk w' sp (vals 79 23 D') ∧ (∀ i, i ≠ 18 + ix → D' i = D i) ∧ ((upd l 35 true) 43 = true → D' (18 + ix) = .pointer (some ⟨g 39, 0, none⟩)) := hM
      clear hc hp hG hM
      unfold Oper.wp; generalize a.eval = ρ at *; go_simp; exact hK g w' (fun _ _ => rfl) hM'
    · intro l g a w' K hp hc hl hG hM hK
      have e210 : a.eval (.tmp 210) = .slice none 0 0 := hG.of 210 35 (by kernel_rfl) (preAt hc 44 _ hp (by kernel_rfl))
      have hM' : w0.Since w0.heap.size w' ∧ ((upd l 36 true) 43 = false → (upd l 36 true) 18 = true → w'.cell? ⟨g 18, 0, none⟩ = some (.int .i64 (-1))) ∧ ((upd l 36 true) 43 = false → (upd l 36 true) 31 = true → w'.cell? ⟨g 31, 0, none⟩ = some (.int .i64 (-1))) ∧ ((upd l 36 true) 39 = true → w0.heap.size ≤ g 39 ∧ sp < g 39 ∧ RowOk w' (g 39) (zany 101 20)) ∧ (sp < w'.heap.size) ∧ (w.heap.size ≤ w'.heap.size) ∧ (∀ b, b < w.heap.size → b ≠ sp → w'.heap[b]? = w.heap[b]?) ∧ ∃ D', RowOk w' sp (vals 79 23 D') ∧ (∀ i, i ≠ 18 + ix → D' i = D i) ∧ ((upd l 36 true) 43 = true → D' (18 + ix) = .pointer (some ⟨g 39, 0, none⟩)) := hM
      clear hc hp hG hM
      unfold Oper.wp; generalize a.eval = ρ at *; go_simp; exact hK g w' (fun _ _ => rfl) hM'
    · intro l g a w' K hp hc hl hG hM hK
      have e206 : a.eval (.tmp 206) = .slice (some ⟨g 31, 0, none⟩) 1 1 := hG.of 206 31 (by kernel_rfl) (preAt hc 44 _ hp (by kernel_rfl))
      have e211 : a.eval (.tmp 211) = .int .i64 0 := hG.of 211 36 (by kernel_rfl) (preAt hc 44 _ hp (by kernel_rfl))
      have ef : ∀ x, a.eval (.func x) = .func (.func x) #[] #[] := fun _ => rfl
      have h4 : l 31 = true := preAt hc 44 _ hp (by kernel_rfl)
      have HC := repeat20 (w := w') (b := g 31) (c := 1) (-1) 0 (by omega) (hM.2.2.1 (hc.not 43 44 hl (by kernel_rfl)) h4)
      have FIN : Hid (∀ w'', w'.Since w'.heap.size w'' → K (a.put (some 212) (.slice (some ⟨w'.heap.size, 0, none⟩) 0 0)) w'') := fun w'' hsn => hK (upd g 37 w'.heap.size) w'' (fun i hi => by
              match i, hi with
              | 0, _ => rfl
              | 1, _ => rfl
              | 2, _ => rfl
              | 3, _ => rfl
              | 4, _ => rfl
              | 5, _ => rfl
              | 6, _ => rfl
              | 7, _ => rfl
              | 8, _ => rfl
              | 9, _ => rfl
              | 10, _ => rfl
              | 11, _ => rfl
              | 12, _ => rfl
              | 13, _ => rfl
              | 14, _ => rfl
              | 15, _ => rfl
              | 16, _ => rfl
              | 17, _ => rfl
              | 18, _ => rfl
              | 19, _ => rfl
              | 20, _ => rfl
              | 21, _ => rfl
              | 22, _ => rfl
              | 23, _ => rfl
              | 24, _ => rfl
              | 25, _ => rfl
              | 26, _ => rfl
              | 27, _ => rfl
              | 28, _ => rfl
              | 29, _ => rfl
              | 30, _ => rfl
              | 31, _ => rfl
              | 32, _ => rfl
              | 33, _ => rfl
              | 34, _ => rfl
              | 35, _ => rfl
              | 36, _ => rfl
              | 37, hi => exact absurd hi (by rw [hl]; decide)
              | 38, hi => exact absurd hi (by rw [hc.not 38 44 hl (by kernel_rfl)]; decide)
              | 39, _ => rfl
              | 40, _ => rfl
              | 41, _ => rfl
              | 42, _ => rfl
              | 43, _ => rfl
              | _ + 44, _ => rfl) ⟨hM.1.trans ⟨hsn.os, hsn.tape, hsn.output, hsn.size, fun i hi => hsn.block i (Nat.lt_of_lt_of_le hi hM.1.size)⟩, fun h3 h' => by
        rw [upd_other _ _ (by omega)] at h' h3 ⊢
        exact old_cell hsn (hM.2.1 h3 h'), fun h3 h' => by
        rw [upd_other _ _ (by omega)] at h' h3 ⊢
        exact old_cell hsn (hM.2.2.1 h3 h'), fun h' => by
        rw [upd_other _ _ (by omega)] at h' ⊢
        obtain ⟨q1, q2, q3⟩ := hM.2.2.2.1 h'
        exact ⟨q1, q2, q3.of_block (hsn.block _ q3.lt)⟩, Nat.lt_of_lt_of_le hM.2.2.2.2.1 hsn.size, Nat.le_trans hM.2.2.2.2.2.1 hsn.size, fun b hb hne => (hsn.block b (Nat.lt_of_lt_of_le hb hM.2.2.2.2.2.1)).trans (hM.2.2.2.2.2.2.1 b hb hne), by
        obtain ⟨D', q1, q2, q3⟩ := hM.2.2.2.2.2.2.2
        exact ⟨D', q1.of_block (hsn.block _ hM.2.2.2.2.1), q2, fun h' => absurd h' (by rw [upd_other _ _ (by omega), hc.not 43 44 hl (by kernel_rfl)]; decide)⟩⟩
      clear hK hc hp hG hM
      unfold Oper.wp; generalize hρ : a.eval = ρ at *; go_simp
      refine Calls.mono HC ?_
      rintro e w'' ⟨rfl, h, _⟩
      exact FIN.out w'' h
    · intro l g a w' K hp hc hl hG hM hK
      have e184 : a.eval (.tmp 184) = .slice (some ⟨g 9, 0, none⟩) 0 0 := hG.of 184 9 (by kernel_rfl) (preAt hc 44 _ hp (by kernel_rfl))
      have e192 : a.eval (.tmp 192) = .slice (some ⟨g 17, 0, none⟩) 0 0 := hG.of 192 17 (by kernel_rfl) (preAt hc 44 _ hp (by kernel_rfl))
      have e199 : a.eval (.tmp 199) = .slice (some ⟨g 24, 0, none⟩) 0 0 := hG.of 199 24 (by kernel_rfl) (preAt hc 44 _ hp (by kernel_rfl))
      have e205 : a.eval (.tmp 205) = .slice (some ⟨g 30, 0, none⟩) 0 0 := hG.of 205 30 (by kernel_rfl) (preAt hc 44 _ hp (by kernel_rfl))
      have e212 : a.eval (.tmp 212) = .slice (some ⟨g 37, 0, none⟩) 0 0 := hG.of 212 37 (by kernel_rfl) (preAt hc 44 _ hp (by kernel_rfl))
      have hM' : w0.Since w0.heap.size w' ∧ ((upd l 38 true) 43 = false → (upd l 38 true) 18 = true → w'.cell? ⟨g 18, 0, none⟩ = some (.int .i64 (-1))) ∧ ((upd l 38 true) 43 = false → (upd l 38 true) 31 = true → w'.cell? ⟨g 31, 0, none⟩ = some (.int .i64 (-1))) ∧ ((upd l 38 true) 39 = true → w0.heap.size ≤ g 39 ∧ sp < g 39 ∧ RowOk w' (g 39) (zany 101 20)) ∧ (sp < w'.heap.size) ∧ (w.heap.size ≤ w'.heap.size) ∧ (∀ b, b < w.heap.size → b ≠ sp → w'.heap[b]? = w.heap[b]?) ∧ ∃ D', RowOk w' sp (vals 79 23 D') ∧ (∀ i, i ≠ 18 + ix → D' i = D i) ∧ ((upd l 38 true) 43 = true → D' (18 + ix) = .pointer (some ⟨g 39, 0, none⟩)) := hM
      clear hc hp hG hM
      unfold Oper.wp; generalize a.eval = ρ at *; go_simp; exact hK g w' (fun _ _ => rfl) hM'
    · intro l g a w' K hp hc hl hG hM hK
      have e213 : a.eval (.tmp 213) = .agg #[.slice none 0 0, .slice none 0 0, .int .i64 0, .slice none 0 0, .slice none 0 0, .slice (some ⟨g 9, 0, none⟩) 0 0, .slice (some ⟨g 17, 0, none⟩) 0 0, .slice (some ⟨g 24, 0, none⟩) 0 0, .slice none 0 0, .slice none 0 0, .int .i64 0, .slice none 0 0, .int .i64 0, .slice (some ⟨g 30, 0, none⟩) 0 0, .slice (some ⟨g 37, 0, none⟩) 0 0, .slice none 0 0, .slice none 0 0, .slice none 0 0, .slice none 0 0, .slice none 0 0] := hG.of 213 38 (by kernel_rfl) (preAt hc 44 _ hp (by kernel_rfl))
      have hsn : w'.Since w'.heap.size (w'.alloc (.cells #[.slice none 0 0, .slice none 0 0, .int .i64 0, .slice none 0 0, .slice none 0 0, .slice (some ⟨g 9, 0, none⟩) 0 0, .slice (some ⟨g 17, 0, none⟩) 0 0, .slice (some ⟨g 24, 0, none⟩) 0 0, .slice none 0 0, .slice none 0 0, .int .i64 0, .slice none 0 0, .int .i64 0, .slice (some ⟨g 30, 0, none⟩) 0 0, .slice (some ⟨g 37, 0, none⟩) 0 0, .slice none 0 0, .slice none 0 0, .slice none 0 0, .slice none 0 0, .slice none 0 0] 101)) := alloc_since _ _
      have hrow : RowOk (w'.alloc (.cells #[.slice none 0 0, .slice none 0 0, .int .i64 0, .slice none 0 0, .slice none 0 0, .slice (some ⟨g 9, 0, none⟩) 0 0, .slice (some ⟨g 17, 0, none⟩) 0 0, .slice (some ⟨g 24, 0, none⟩) 0 0, .slice none 0 0, .slice none 0 0, .int .i64 0, .slice none 0 0, .int .i64 0, .slice (some ⟨g 30, 0, none⟩) 0 0, .slice (some ⟨g 37, 0, none⟩) 0 0, .slice none 0 0, .slice none 0 0, .slice none 0 0, .slice none 0 0, .slice none 0 0] 101)) w'.heap.size (zany 101 20) := ⟨_, Go.Deep.blk_alloc_new _ _, rfl, fun _ _ _ => trivial⟩
      have fin := hK (upd g 39 w'.heap.size) (w'.alloc (.cells #[.slice none 0 0, .slice none 0 0, .int .i64 0, .slice none 0 0, .slice none 0 0, .slice (some ⟨g 9, 0, none⟩) 0 0, .slice (some ⟨g 17, 0, none⟩) 0 0, .slice (some ⟨g 24, 0, none⟩) 0 0, .slice none 0 0, .slice none 0 0, .int .i64 0, .slice none 0 0, .int .i64 0, .slice (some ⟨g 30, 0, none⟩) 0 0, .slice (some ⟨g 37, 0, none⟩) 0 0, .slice none 0 0, .slice none 0 0, .slice none 0 0, .slice none 0 0, .slice none 0 0] 101)) (fun i hi => by
              match i, hi with
              | 0, _ => rfl
              | 1, _ => rfl
              | 2, _ => rfl
              | 3, _ => rfl
              | 4, _ => rfl
              | 5, _ => rfl
              | 6, _ => rfl
              | 7, _ => rfl
              | 8, _ => rfl
              | 9, _ => rfl
              | 10, _ => rfl
              | 11, _ => rfl
              | 12, _ => rfl
              | 13, _ => rfl
              | 14, _ => rfl
              | 15, _ => rfl
              | 16, _ => rfl
              | 17, _ => rfl
              | 18, _ => rfl
              | 19, _ => rfl
              | 20, _ => rfl
              | 21, _ => rfl
              | 22, _ => rfl
              | 23, _ => rfl
              | 24, _ => rfl
              | 25, _ => rfl
              | 26, _ => rfl
              | 27, _ => rfl
              | 28, _ => rfl
              | 29, _ => rfl
              | 30, _ => rfl
              | 31, _ => rfl
              | 32, _ => rfl
              | 33, _ => rfl
              | 34, _ => rfl
              | 35, _ => rfl
              | 36, _ => rfl
              | 37, _ => rfl
              | 38, _ => rfl
              | 39, hi => exact absurd hi (by rw [hl]; decide)
              | 40, _ => rfl
              | 41, _ => rfl
              | 42, _ => rfl
              | 43, _ => rfl
              | _ + 44, _ => rfl) ⟨hM.1.alloc hM.1.size _, fun h3 h' => by
        rw [upd_other _ _ (by omega)] at h' h3 ⊢
        exact old_cell hsn (hM.2.1 h3 h'), fun h3 h' => by
        rw [upd_other _ _ (by omega)] at h' h3 ⊢
        exact old_cell hsn (hM.2.2.1 h3 h'), fun _ => by rw [upd_same]; exact ⟨hM.1.size, hM.2.2.2.2.1, hrow⟩, Nat.lt_of_lt_of_le hM.2.2.2.2.1 hsn.size, Nat.le_trans hM.2.2.2.2.2.1 hsn.size, fun b hb hne => (hsn.block b (Nat.lt_of_lt_of_le hb hM.2.2.2.2.2.1)).trans (hM.2.2.2.2.2.2.1 b hb hne), by
        obtain ⟨D', q1, q2, q3⟩ := hM.2.2.2.2.2.2.2
        exact ⟨D', q1.of_block (hsn.block _ hM.2.2.2.2.1), q2, fun h' => absurd h' (by rw [upd_other _ _ (by omega), hc.not 43 44 hl (by kernel_rfl)]; decide)⟩⟩
      clear hK hc hp hG hM hrow hsn
      unfold Oper.wp; generalize a.eval = ρ at *; go_simp; exact fin
    · intro l g a w' K hp hc hl hG hM hK
      have e175 : a.eval (.tmp 175) = .pointer (some ⟨sp, 0, none⟩) := hG.of 175 0 (by kernel_rfl) (preAt hc 44 _ hp (by kernel_rfl))
      have hM' : w0.Since w0.heap.size w' ∧ ((upd l 40 true) 43 = false → (upd l 40 true) 18 = true → w'.cell? ⟨g 18, 0, none⟩ = some (.int .i64 (-1))) ∧ ((upd l 40 true) 43 = false → (upd l 40 true) 31 = true → w'.cell? ⟨g 31, 0, none⟩ = some (.int .i64 (-1))) ∧ ((upd l 40 true) 39 = true → w0.heap.size ≤ g 39 ∧ sp < g 39 ∧ RowOk w' (g 39) (zany 101 20)) ∧ (sp < w'.heap.size) ∧ (w.heap.size ≤ w'.heap.size) ∧ (∀ b, b < w.heap.size → b ≠ sp → w'.heap[b]? = w.heap[b]?) ∧ ∃ D', RowOk w' sp (vals 79 23 D') ∧ (∀ i, i ≠ 18 + ix → D' i = D i) ∧ ((upd l 40 true) 43 = true → D' (18 + ix) = .pointer (some ⟨g 39, 0, none⟩)) := hM
      clear hc hp hG hM
      unfold Oper.wp; generalize a.eval = ρ at *; go_simp; exact hK g w' (fun _ _ => rfl) hM'
    · intro l g a w' K hp hc hl hG hM hK
      have e215 : a.eval (.tmp 215) = .pointer (some ⟨sp, 0, none⟩) := hG.of 215 40 (by kernel_rfl) (preAt hc 44 _ hp (by kernel_rfl))
      have hM' : w0.Since w0.heap.size w' ∧ ((upd l 41 true) 43 = false → (upd l 41 true) 18 = true → w'.cell? ⟨g 18, 0, none⟩ = some (.int .i64 (-1))) ∧ ((upd l 41 true) 43 = false → (upd l 41 true) 31 = true → w'.cell? ⟨g 31, 0, none⟩ = some (.int .i64 (-1))) ∧ ((upd l 41 true) 39 = true → w0.heap.size ≤ g 39 ∧ sp < g 39 ∧ RowOk w' (g 39) (zany 101 20)) ∧ (sp < w'.heap.size) ∧ (w.heap.size ≤ w'.heap.size) ∧ (∀ b, b < w.heap.size → b ≠ sp → w'.heap[b]? = w.heap[b]?) ∧ ∃ D', RowOk w' sp (vals 79 23 D') ∧ (∀ i, i ≠ 18 + ix → D' i = D i) ∧ ((upd l 41 true) 43 = true → D' (18 + ix) = .pointer (some ⟨g 39, 0, none⟩)) := hM
      clear hc hp hG hM
      unfold Oper.wp; generalize a.eval = ρ at *; go_simp; exact hK g w' (fun _ _ => rfl) hM'
    · intro l g a w' K hp hc hl hG hM hK
      have e216 : a.eval (.tmp 216) = .pointer (some ⟨sp, 18, none⟩) := hG.of 216 41 (by kernel_rfl) (preAt hc 44 _ hp (by kernel_rfl))
      have e176 : a.eval (.tmp 176) = .int .i64 (ix : Nat) := hG.of 176 1 (by kernel_rfl) (preAt hc 44 _ hp (by kernel_rfl))
      have hM' : w0.Since w0.heap.size w' ∧ ((upd l 42 true) 43 = false → (upd l 42 true) 18 = true → w'.cell? ⟨g 18, 0, none⟩ = some (.int .i64 (-1))) ∧ ((upd l 42 true) 43 = false → (upd l 42 true) 31 = true → w'.cell? ⟨g 31, 0, none⟩ = some (.int .i64 (-1))) ∧ ((upd l 42 true) 39 = true → w0.heap.size ≤ g 39 ∧ sp < g 39 ∧ RowOk w' (g 39) (zany 101 20)) ∧ (sp < w'.heap.size) ∧ (w.heap.size ≤ w'.heap.size) ∧ (∀ b, b < w.heap.size → b ≠ sp → w'.heap[b]? = w.heap[b]?) ∧ ∃ D', RowOk w' sp (vals 79 23 D') ∧ (∀ i, i ≠ 18 + ix → D' i = D i) ∧ ((upd l 42 true) 43 = true → D' (18 + ix) = .pointer (some ⟨g 39, 0, none⟩)) := hM
      clear hc hp hG hM
      unfold Oper.wp; generalize a.eval = ρ at *; go_simp; exact hK g w' (fun _ _ => rfl) hM'
    · intro l g a w' K hp hc hl hG hM hK
      have e217 : a.eval (.tmp 217) = .pointer (some ⟨sp, 18 + ix, none⟩) := hG.of 217 42 (by kernel_rfl) (preAt hc 44 _ hp (by kernel_rfl))
      have e214 : a.eval (.tmp 214) = .pointer (some ⟨g 39, 0, none⟩) := hG.of 214 39 (by kernel_rfl) (preAt hc 44 _ hp (by kernel_rfl))
      have h39 : l 39 = true := preAt hc 44 _ hp (by kernel_rfl)
      obtain ⟨hs9, m18, m31, m39, hlt9, hle9, hfr9, D', q1, q2, _⟩ := hM
      obtain ⟨p1, p2, p3⟩ := m39 h39
      obtain ⟨u, ku, _⟩ := q1.cell (i := 18 + ix) (by show 18 + ix < 23; omega)
      have kf := q1.frozen (18 + ix)
      have hq := q1.set (vals 79 23 (upd D' (18 + ix) (.pointer (some ⟨g 39, 0, none⟩)))) rfl rfl (i := 18 + ix) (v := .pointer (some ⟨g 39, 0, none⟩)) (by show _ = _; rw [upd_same]) (fun j u hj _ hp => by show u = _; rw [upd_other _ _ hj]; exact hp)
      have fin := hK g (w'.setCell ⟨sp, 18 + ix, none⟩ (.pointer (some ⟨g 39, 0, none⟩))) (fun _ _ => rfl) ⟨hs9.setCell hsp _, fun h' => absurd h' (by rw [upd_same]; decide), fun h' => absurd h' (by rw [upd_same]; decide), fun _ => ⟨p1, p2, p3.of_block (Go.Deep.blk_setCell_other _ _ _ _ (by show g 39 ≠ sp; omega))⟩, by rw [World.size_setCell]; exact hlt9, by rw [World.size_setCell]; exact hle9, fun b hb hne => (Go.Deep.blk_setCell_other _ _ _ _ hne).trans (hfr9 b hb hne), ⟨_, hq, fun i hi => by rw [upd_other _ _ hi]; exact q2 i hi, fun _ => upd_same _ _ _⟩⟩
      clear hK hc hp hG q1 hq m18 m31 m39
      unfold Oper.wp; generalize a.eval = ρ at *; go_simp; exact fin
  · intro l g x w' hl hv ho hM
    obtain ⟨hs9, _, _, m39, _, _, hfr, D', q1, q2, q3⟩ := hM
    have all : ∀ i, i < 44 → l i = true := hl
    obtain ⟨p1, p2, p3⟩ := m39 (all 39 (by omega))
    exact HQ.out x w' (g 39) D' (fun s hs hw => ho s hs hw) hs9 q1 q2 (q3 (all 43 (by omega))) p1 (by omega) p3 hfr
end Go.Proofs.YbulkexmzaGreat
