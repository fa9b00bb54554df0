/-
  newSinker (10): region 2.
-/
import Derived.Test.YbulkexmzaGreatVa2
namespace Go.Proofs.YbulkexmzaGreat
open Go.RowKit
set_option maxHeartbeats 8000000 in
set_option maxRecDepth 100000 in
theorem n2 {F : (Nat → Value) → Act} (hF : Fr 233 F) {w0 w : World} {n fb bb bo bc ac pb : Nat} {aa : Option Addr} {al : ByteArray} {f : Nat → Value} {bk : Nat → Nat} {sc : Nat → Option Nat} {Q : Exit → Act → World → Prop}
    (hC : Cfg w0 fb n bk sc) (hn : n ≤ 100000) (hn1 : 1 ≤ n) (hk5 : w0.cell? ⟨fb, 5, none⟩ = some (.pointer none)) (hk9 : w0.cell? ⟨fb, 9, none⟩ = some (.slice none 0 0)) (hk10 : w0.cell? ⟨fb, 10, none⟩ = some (.slice none 0 0)) (hk11 : w0.cell? ⟨fb, 11, none⟩ = some (.slice (some ⟨bb, bo, none⟩) n bc)) (hs : w0.Since w0.heap.size w) (h0 : f 0 = .pointer (some ⟨fb, 0, none⟩)) (h1 : f 1 = .string al) (h2 : f 2 = .slice (some ⟨pb, 0, none⟩) n n) (h7 : f 7 = .slice aa 0 ac)
    (hQ : ∀ x w' sp D, (∀ s, s < 233 → wrF (opsL (Ybaz.f10.body.bind (regAt 2))) 0 s = none → x s = f s) → w0.Since w0.heap.size w' → w0.heap.size ≤ sp → RowOk w' sp (vals 79 23 D) → D 21 = .pointer none → D 22 = .int .i64 0 → x 8 = .pointer (some ⟨sp, 0, none⟩) → Q .normal (F x) w') :
    ((Ybaz.f10.body.bind (regAt 2)).getD .skip).wp Ybaz.prog Q (F f) w := by
  conv => arg 2; whnf
  have HQ : Hid (∀ x w' sp D, (∀ s, s < 233 → wrF (opsL (Ybaz.f10.body.bind (regAt 2))) 0 s = none → x s = f s) → w0.Since w0.heap.size w' → w0.heap.size ≤ sp → RowOk w' sp (vals 79 23 D) → D 21 = .pointer none → D 22 = .int .i64 0 → x 8 = .pointer (some ⟨sp, 0, none⟩) → Q .normal (F x) w') := hQ
  clear hQ
  refine region_frm hF (γ := (Nat → Nat)) (fun op9 g => match op9 with
    | 0 => .string al
    | 1 => .pointer (some ⟨fb, 0, none⟩)
    | 2 => .pointer (some ⟨fb, 0, none⟩)
    | 3 => .pointer (some ⟨fb, 10, none⟩)
    | 4 => .slice none 0 0
    | 5 => .int .i64 0
    | 6 => .slice (some ⟨g 6, 0, none⟩) 0 0
    | 7 => .slice (some ⟨pb, 0, none⟩) n n
    | 8 => .pointer (some ⟨fb, 0, none⟩)
    | 9 => .pointer (some ⟨fb, 0, none⟩)
    | 10 => .pointer (some ⟨fb, 0, none⟩)
    | 11 => .pointer (some ⟨fb, 9, none⟩)
    | 12 => .slice none 0 0
    | 13 => .int .i64 0
    | 14 => .slice aa 0 ac
    | 15 => .pointer (some ⟨g 15, 0, none⟩)
    | 16 => .slice aa 0 ac
    | 17 => .pointer (some ⟨fb, 0, none⟩)
    | 18 => .pointer (some ⟨fb, 0, none⟩)
    | 19 => .pointer (some ⟨fb, 11, none⟩)
    | 20 => .slice (some ⟨bb, bo, none⟩) n bc
    | 21 => .int .i64 (n : Nat)
    | 22 => .slice (some ⟨g 22, 0, none⟩) n n
    | 23 => .pointer (some ⟨fb, 0, none⟩)
    | 24 => .pointer (some ⟨fb, 0, none⟩)
    | 25 => .pointer (some ⟨fb, 9, none⟩)
    | 26 => .slice none 0 0
    | 27 => .int .i64 0
    | 28 => .slice (some ⟨g 28, 0, none⟩) 0 0
    | 29 => .pointer (some ⟨fb, 0, none⟩)
    | 30 => .pointer (some ⟨fb, 0, none⟩)
    | 31 => .pointer (some ⟨fb, 11, none⟩)
    | 32 => .slice (some ⟨bb, bo, none⟩) n bc
    | 33 => .int .i64 (n : Nat)
    | 34 => .slice (some ⟨g 34, 0, none⟩) n n
    | 35 => .pointer (some ⟨fb, 0, none⟩)
    | 36 => .pointer (some ⟨fb, 0, none⟩)
    | 37 => .pointer (some ⟨fb, 9, none⟩)
    | 38 => .slice none 0 0
    | 39 => .int .i64 0
    | 40 => .slice (some ⟨g 40, 0, none⟩) 0 0
    | 41 => .pointer (some ⟨fb, 0, none⟩)
    | 42 => .pointer (some ⟨fb, 0, none⟩)
    | 43 => .pointer (some ⟨fb, 11, none⟩)
    | 44 => .slice (some ⟨bb, bo, none⟩) n bc
    | 45 => .slice (some ⟨g 45, 0, none⟩) 1 1
    | 46 => .pointer (some ⟨fb, 0, none⟩)
    | 47 => .pointer (some ⟨fb, 0, none⟩)
    | 48 => .pointer (some ⟨fb, 11, none⟩)
    | 49 => .slice (some ⟨bb, bo, none⟩) n bc
    | 50 => .int .i64 (n : Nat)
    | 51 => .slice (some ⟨g 51, 0, none⟩) n n
    | 52 => .agg #[.string al, .slice (some ⟨g 6, 0, none⟩) 0 0, .slice (some ⟨pb, 0, none⟩) n n, .pointer (some ⟨g 15, 0, none⟩), .slice aa 0 ac, .slice none 0 0, .int .i64 0, .slice (some ⟨g 22, 0, none⟩) n n, .slice (some ⟨g 28, 0, none⟩) 0 0, .slice none 0 0, .slice none 0 0, .slice (some ⟨g 34, 0, none⟩) n n, .slice (some ⟨g 40, 0, none⟩) 0 0, .slice none 0 0, .slice none 0 0, .slice (some ⟨bb, bo, none⟩) n bc, .slice (some ⟨g 51, 0, none⟩) n n, .slice none 0 0, .pointer none, .pointer none, .pointer none, .pointer none, .int .i64 0]
    | 53 => .pointer (some ⟨g 53, 0, none⟩)
    | 54 => .pointer (some ⟨g 53, 0, none⟩)
    | _ => undef) (fun l g w' => w0.Since w0.heap.size w' ∧ (l 45 = true → w0.heap.size ≤ g 45 ∧ w'.cell? ⟨g 45, 0, none⟩ = some (.int .i64 (-1))) ∧ (l 53 = true → w0.heap.size ≤ g 53 ∧ RowOk w' (g 53) (vals 79 23 (fun i => (#[.string al, .slice (some ⟨g 6, 0, none⟩) 0 0, .slice (some ⟨pb, 0, none⟩) n n, .pointer (some ⟨g 15, 0, none⟩), .slice aa 0 ac, .slice none 0 0, .int .i64 0, .slice (some ⟨g 22, 0, none⟩) n n, .slice (some ⟨g 28, 0, none⟩) 0 0, .slice none 0 0, .slice none 0 0, .slice (some ⟨g 34, 0, none⟩) n n, .slice (some ⟨g 40, 0, none⟩) 0 0, .slice none 0 0, .slice none 0 0, .slice (some ⟨bb, bo, none⟩) n bc, .slice (some ⟨g 51, 0, none⟩) n n, .slice none 0 0, .pointer none, .pointer none, .pointer none, .pointer none, .int .i64 0] : Array Value).getD i undef)))) (fun _ => 0) (by kernel_rfl) (by kernel_rfl) ⟨hs.drew, fun h => (by cases h), fun h => (by cases h)⟩ ?_ ?_
  · refine ⟨?_, ?_, ?_, ?_, ?_, ?_, ?_, ?_, ?_, ?_, ?_, ?_, ?_, ?_, ?_, ?_, ?_, ?_, ?_, ?_, ?_, ?_, ?_, ?_, ?_, ?_, ?_, ?_, ?_, ?_, ?_, ?_, ?_, ?_, ?_, ?_, ?_, ?_, ?_, ?_, ?_, ?_, ?_, ?_, ?_, ?_, ?_, ?_, ?_, ?_, ?_, ?_, ?_, ?_, ?_, trivial⟩
    · intro l g a w' K hp hc hl hG hM hK
      have e1 : a.eval (.tmp 1) = .string al := (hG.oldF hF 1 (by kernel_rfl) (by omega)).trans h1
      have hM' : w0.Since w0.heap.size w' ∧ ((upd l 0 true) 45 = true → w0.heap.size ≤ g 45 ∧ w'.cell? ⟨g 45, 0, none⟩ = some (.int .i64 (-1))) ∧ ((upd l 0 true) 53 = true → w0.heap.size ≤ g 53 ∧ RowOk w' (g 53) (vals 79 23 (fun i => (#[.string al, .slice (some ⟨g 6, 0, none⟩) 0 0, .slice (some ⟨pb, 0, none⟩) n n, .pointer (some ⟨g 15, 0, none⟩), .slice aa 0 ac, .slice none 0 0, .int .i64 0, .slice (some ⟨g 22, 0, none⟩) n n, .slice (some ⟨g 28, 0, none⟩) 0 0, .slice none 0 0, .slice none 0 0, .slice (some ⟨g 34, 0, none⟩) n n, .slice (some ⟨g 40, 0, none⟩) 0 0, .slice none 0 0, .slice none 0 0, .slice (some ⟨bb, bo, none⟩) n bc, .slice (some ⟨g 51, 0, none⟩) n n, .slice none 0 0, .pointer none, .pointer none, .pointer none, .pointer none, .int .i64 0] : Array Value).getD i undef))) := hM
      clear hc hp hG hM
      unfold Oper.wp; generalize a.eval = ρ at *; go_simp; exact hK g w' (fun _ _ => rfl) hM'
    · intro l g a w' K hp hc hl hG hM hK
      have e0 : a.eval (.tmp 0) = .pointer (some ⟨fb, 0, none⟩) := (hG.oldF hF 0 (by kernel_rfl) (by omega)).trans h0
      have hM' : w0.Since w0.heap.size w' ∧ ((upd l 1 true) 45 = true → w0.heap.size ≤ g 45 ∧ w'.cell? ⟨g 45, 0, none⟩ = some (.int .i64 (-1))) ∧ ((upd l 1 true) 53 = true → w0.heap.size ≤ g 53 ∧ RowOk w' (g 53) (vals 79 23 (fun i => (#[.string al, .slice (some ⟨g 6, 0, none⟩) 0 0, .slice (some ⟨pb, 0, none⟩) n n, .pointer (some ⟨g 15, 0, none⟩), .slice aa 0 ac, .slice none 0 0, .int .i64 0, .slice (some ⟨g 22, 0, none⟩) n n, .slice (some ⟨g 28, 0, none⟩) 0 0, .slice none 0 0, .slice none 0 0, .slice (some ⟨g 34, 0, none⟩) n n, .slice (some ⟨g 40, 0, none⟩) 0 0, .slice none 0 0, .slice none 0 0, .slice (some ⟨bb, bo, none⟩) n bc, .slice (some ⟨g 51, 0, none⟩) n n, .slice none 0 0, .pointer none, .pointer none, .pointer none, .pointer none, .int .i64 0] : Array Value).getD i undef))) := hM
      clear hc hp hG hM
      unfold Oper.wp; generalize a.eval = ρ at *; go_simp; exact hK g w' (fun _ _ => rfl) hM'
    · intro l g a w' K hp hc hl hG hM hK
      have e20 : a.eval (.tmp 20) = .pointer (some ⟨fb, 0, none⟩) := hG.of 20 1 (by kernel_rfl) (preAt hc 55 _ hp (by kernel_rfl))
      have hM' : w0.Since w0.heap.size w' ∧ ((upd l 2 true) 45 = true → w0.heap.size ≤ g 45 ∧ w'.cell? ⟨g 45, 0, none⟩ = some (.int .i64 (-1))) ∧ ((upd l 2 true) 53 = true → w0.heap.size ≤ g 53 ∧ RowOk w' (g 53) (vals 79 23 (fun i => (#[.string al, .slice (some ⟨g 6, 0, none⟩) 0 0, .slice (some ⟨pb, 0, none⟩) n n, .pointer (some ⟨g 15, 0, none⟩), .slice aa 0 ac, .slice none 0 0, .int .i64 0, .slice (some ⟨g 22, 0, none⟩) n n, .slice (some ⟨g 28, 0, none⟩) 0 0, .slice none 0 0, .slice none 0 0, .slice (some ⟨g 34, 0, none⟩) n n, .slice (some ⟨g 40, 0, none⟩) 0 0, .slice none 0 0, .slice none 0 0, .slice (some ⟨bb, bo, none⟩) n bc, .slice (some ⟨g 51, 0, none⟩) n n, .slice none 0 0, .pointer none, .pointer none, .pointer none, .pointer none, .int .i64 0] : Array Value).getD i undef))) := hM
      clear hc hp hG hM
      unfold Oper.wp; generalize a.eval = ρ at *; go_simp; exact hK g w' (fun _ _ => rfl) hM'
    · intro l g a w' K hp hc hl hG hM hK
      have e21 : a.eval (.tmp 21) = .pointer (some ⟨fb, 0, none⟩) := hG.of 21 2 (by kernel_rfl) (preAt hc 55 _ hp (by kernel_rfl))
      have hM' : w0.Since w0.heap.size w' ∧ ((upd l 3 true) 45 = true → w0.heap.size ≤ g 45 ∧ w'.cell? ⟨g 45, 0, none⟩ = some (.int .i64 (-1))) ∧ ((upd l 3 true) 53 = true → w0.heap.size ≤ g 53 ∧ RowOk w' (g 53) (vals 79 23 (fun i => (#[.string al, .slice (some ⟨g 6, 0, none⟩) 0 0, .slice (some ⟨pb, 0, none⟩) n n, .pointer (some ⟨g 15, 0, none⟩), .slice aa 0 ac, .slice none 0 0, .int .i64 0, .slice (some ⟨g 22, 0, none⟩) n n, .slice (some ⟨g 28, 0, none⟩) 0 0, .slice none 0 0, .slice none 0 0, .slice (some ⟨g 34, 0, none⟩) n n, .slice (some ⟨g 40, 0, none⟩) 0 0, .slice none 0 0, .slice none 0 0, .slice (some ⟨bb, bo, none⟩) n bc, .slice (some ⟨g 51, 0, none⟩) n n, .slice none 0 0, .pointer none, .pointer none, .pointer none, .pointer none, .int .i64 0] : Array Value).getD i undef))) := hM
      clear hc hp hG hM
      unfold Oper.wp; generalize a.eval = ρ at *; go_simp; exact hK g w' (fun _ _ => rfl) hM'
    · intro l g a w' K hp hc hl hG hM hK
      have e22 : a.eval (.tmp 22) = .pointer (some ⟨fb, 10, none⟩) := hG.of 22 3 (by kernel_rfl) (preAt hc 55 _ hp (by kernel_rfl))
      have kk := old_cell hM.1 hk10
      have hM' : w0.Since w0.heap.size w' ∧ ((upd l 4 true) 45 = true → w0.heap.size ≤ g 45 ∧ w'.cell? ⟨g 45, 0, none⟩ = some (.int .i64 (-1))) ∧ ((upd l 4 true) 53 = true → w0.heap.size ≤ g 53 ∧ RowOk w' (g 53) (vals 79 23 (fun i => (#[.string al, .slice (some ⟨g 6, 0, none⟩) 0 0, .slice (some ⟨pb, 0, none⟩) n n, .pointer (some ⟨g 15, 0, none⟩), .slice aa 0 ac, .slice none 0 0, .int .i64 0, .slice (some ⟨g 22, 0, none⟩) n n, .slice (some ⟨g 28, 0, none⟩) 0 0, .slice none 0 0, .slice none 0 0, .slice (some ⟨g 34, 0, none⟩) n n, .slice (some ⟨g 40, 0, none⟩) 0 0, .slice none 0 0, .slice none 0 0, .slice (some ⟨bb, bo, none⟩) n bc, .slice (some ⟨g 51, 0, none⟩) n n, .slice none 0 0, .pointer none, .pointer none, .pointer none, .pointer none, .int .i64 0] : Array Value).getD i undef))) := hM
      clear hc hp hG hM
      unfold Oper.wp; generalize a.eval = ρ at *; go_simp; exact hK g w' (fun _ _ => rfl) hM'
    · intro l g a w' K hp hc hl hG hM hK
      have e23 : a.eval (.tmp 23) = .slice none 0 0 := hG.of 23 4 (by kernel_rfl) (preAt hc 55 _ hp (by kernel_rfl))
      have hM' : w0.Since w0.heap.size w' ∧ ((upd l 5 true) 45 = true → w0.heap.size ≤ g 45 ∧ w'.cell? ⟨g 45, 0, none⟩ = some (.int .i64 (-1))) ∧ ((upd l 5 true) 53 = true → w0.heap.size ≤ g 53 ∧ RowOk w' (g 53) (vals 79 23 (fun i => (#[.string al, .slice (some ⟨g 6, 0, none⟩) 0 0, .slice (some ⟨pb, 0, none⟩) n n, .pointer (some ⟨g 15, 0, none⟩), .slice aa 0 ac, .slice none 0 0, .int .i64 0, .slice (some ⟨g 22, 0, none⟩) n n, .slice (some ⟨g 28, 0, none⟩) 0 0, .slice none 0 0, .slice none 0 0, .slice (some ⟨g 34, 0, none⟩) n n, .slice (some ⟨g 40, 0, none⟩) 0 0, .slice none 0 0, .slice none 0 0, .slice (some ⟨bb, bo, none⟩) n bc, .slice (some ⟨g 51, 0, none⟩) n n, .slice none 0 0, .pointer none, .pointer none, .pointer none, .pointer none, .int .i64 0] : Array Value).getD i undef))) := hM
      clear hc hp hG hM
      unfold Oper.wp; generalize a.eval = ρ at *; go_simp; exact hK g w' (fun _ _ => rfl) hM'
    · intro l g a w' K hp hc hl hG hM hK
      have e24 : a.eval (.tmp 24) = .int .i64 0 := hG.of 24 5 (by kernel_rfl) (preAt hc 55 _ hp (by kernel_rfl))
      refine op_make mty46 (.tmp 24) (.tmp 24) rfl 0 0 e24 e24 (Nat.le_refl _) (by omega) ?_
      exact hK (upd g 6 w'.heap.size) _ (fun i hi => by
              match i, hi with
              | 0, _ => rfl
              | 1, _ => rfl
              | 2, _ => rfl
              | 3, _ => rfl
              | 4, _ => rfl
              | 5, _ => rfl
              | 6, hi => exact absurd hi (by rw [hl]; decide)
              | 7, _ => rfl
              | 8, _ => rfl
              | 9, _ => rfl
              | 10, _ => rfl
              | 11, _ => rfl
              | 12, _ => rfl
              | 13, _ => rfl
              | 14, _ => rfl
              | 15, _ => rfl
              | 16, _ => rfl
              | 17, _ => rfl
              | 18, _ => rfl
              | 19, _ => rfl
              | 20, _ => rfl
              | 21, _ => rfl
              | 22, _ => rfl
              | 23, _ => rfl
              | 24, _ => rfl
              | 25, _ => rfl
              | 26, _ => rfl
              | 27, _ => rfl
              | 28, _ => rfl
              | 29, _ => rfl
              | 30, _ => rfl
              | 31, _ => rfl
              | 32, _ => rfl
              | 33, _ => rfl
              | 34, _ => rfl
              | 35, _ => rfl
              | 36, _ => rfl
              | 37, _ => rfl
              | 38, _ => rfl
              | 39, _ => rfl
              | 40, _ => rfl
              | 41, _ => rfl
              | 42, _ => rfl
              | 43, _ => rfl
              | 44, _ => rfl
              | 45, _ => rfl
              | 46, _ => rfl
              | 47, _ => rfl
              | 48, _ => rfl
              | 49, _ => rfl
              | 50, _ => rfl
              | 51, _ => rfl
              | 52, hi => exact absurd hi (by rw [hc.not 52 55 hl (by kernel_rfl)]; decide)
              | 53, _ => rfl
              | 54, _ => rfl
              | _ + 55, _ => rfl) ⟨hM.1.alloc hM.1.size _, fun h' => by
        have h4 : l 45 = true := by rwa [upd_other _ _ (by omega)] at h'
        obtain ⟨q1, q2⟩ := hM.2.1 h4
        rw [upd_other _ _ (by omega)]
        exact ⟨q1, old_cell (alloc_since _ _) q2⟩, fun h' => absurd h' (by rw [upd_other _ _ (by omega), hc.not 53 55 hl (by kernel_rfl)]; decide)⟩
    · intro l g a w' K hp hc hl hG hM hK
      have e2 : a.eval (.tmp 2) = .slice (some ⟨pb, 0, none⟩) n n := (hG.oldF hF 2 (by kernel_rfl) (by omega)).trans h2
      have hM' : w0.Since w0.heap.size w' ∧ ((upd l 7 true) 45 = true → w0.heap.size ≤ g 45 ∧ w'.cell? ⟨g 45, 0, none⟩ = some (.int .i64 (-1))) ∧ ((upd l 7 true) 53 = true → w0.heap.size ≤ g 53 ∧ RowOk w' (g 53) (vals 79 23 (fun i => (#[.string al, .slice (some ⟨g 6, 0, none⟩) 0 0, .slice (some ⟨pb, 0, none⟩) n n, .pointer (some ⟨g 15, 0, none⟩), .slice aa 0 ac, .slice none 0 0, .int .i64 0, .slice (some ⟨g 22, 0, none⟩) n n, .slice (some ⟨g 28, 0, none⟩) 0 0, .slice none 0 0, .slice none 0 0, .slice (some ⟨g 34, 0, none⟩) n n, .slice (some ⟨g 40, 0, none⟩) 0 0, .slice none 0 0, .slice none 0 0, .slice (some ⟨bb, bo, none⟩) n bc, .slice (some ⟨g 51, 0, none⟩) n n, .slice none 0 0, .pointer none, .pointer none, .pointer none, .pointer none, .int .i64 0] : Array Value).getD i undef))) := hM
      clear hc hp hG hM
      unfold Oper.wp; generalize a.eval = ρ at *; go_simp; exact hK g w' (fun _ _ => rfl) hM'
    · intro l g a w' K hp hc hl hG hM hK
      have e0 : a.eval (.tmp 0) = .pointer (some ⟨fb, 0, none⟩) := (hG.oldF hF 0 (by kernel_rfl) (by omega)).trans h0
      have hM' : w0.Since w0.heap.size w' ∧ ((upd l 8 true) 45 = true → w0.heap.size ≤ g 45 ∧ w'.cell? ⟨g 45, 0, none⟩ = some (.int .i64 (-1))) ∧ ((upd l 8 true) 53 = true → w0.heap.size ≤ g 53 ∧ RowOk w' (g 53) (vals 79 23 (fun i => (#[.string al, .slice (some ⟨g 6, 0, none⟩) 0 0, .slice (some ⟨pb, 0, none⟩) n n, .pointer (some ⟨g 15, 0, none⟩), .slice aa 0 ac, .slice none 0 0, .int .i64 0, .slice (some ⟨g 22, 0, none⟩) n n, .slice (some ⟨g 28, 0, none⟩) 0 0, .slice none 0 0, .slice none 0 0, .slice (some ⟨g 34, 0, none⟩) n n, .slice (some ⟨g 40, 0, none⟩) 0 0, .slice none 0 0, .slice none 0 0, .slice (some ⟨bb, bo, none⟩) n bc, .slice (some ⟨g 51, 0, none⟩) n n, .slice none 0 0, .pointer none, .pointer none, .pointer none, .pointer none, .int .i64 0] : Array Value).getD i undef))) := hM
      clear hc hp hG hM
      unfold Oper.wp; generalize a.eval = ρ at *; go_simp; exact hK g w' (fun _ _ => rfl) hM'
    · intro l g a w' K hp hc hl hG hM hK
      have e0 : a.eval (.tmp 0) = .pointer (some ⟨fb, 0, none⟩) := (hG.oldF hF 0 (by kernel_rfl) (by omega)).trans h0
      have hM' : w0.Since w0.heap.size w' ∧ ((upd l 9 true) 45 = true → w0.heap.size ≤ g 45 ∧ w'.cell? ⟨g 45, 0, none⟩ = some (.int .i64 (-1))) ∧ ((upd l 9 true) 53 = true → w0.heap.size ≤ g 53 ∧ RowOk w' (g 53) (vals 79 23 (fun i => (#[.string al, .slice (some ⟨g 6, 0, none⟩) 0 0, .slice (some ⟨pb, 0, none⟩) n n, .pointer (some ⟨g 15, 0, none⟩), .slice aa 0 ac, .slice none 0 0, .int .i64 0, .slice (some ⟨g 22, 0, none⟩) n n, .slice (some ⟨g 28, 0, none⟩) 0 0, .slice none 0 0, .slice none 0 0, .slice (some ⟨g 34, 0, none⟩) n n, .slice (some ⟨g 40, 0, none⟩) 0 0, .slice none 0 0, .slice none 0 0, .slice (some ⟨bb, bo, none⟩) n bc, .slice (some ⟨g 51, 0, none⟩) n n, .slice none 0 0, .pointer none, .pointer none, .pointer none, .pointer none, .int .i64 0] : Array Value).getD i undef))) := hM
      clear hc hp hG hM
      unfold Oper.wp; generalize a.eval = ρ at *; go_simp; exact hK g w' (fun _ _ => rfl) hM'
    · intro l g a w' K hp hc hl hG hM hK
      have e28 : a.eval (.tmp 28) = .pointer (some ⟨fb, 0, none⟩) := hG.of 28 9 (by kernel_rfl) (preAt hc 55 _ hp (by kernel_rfl))
      have hM' : w0.Since w0.heap.size w' ∧ ((upd l 10 true) 45 = true → w0.heap.size ≤ g 45 ∧ w'.cell? ⟨g 45, 0, none⟩ = some (.int .i64 (-1))) ∧ ((upd l 10 true) 53 = true → w0.heap.size ≤ g 53 ∧ RowOk w' (g 53) (vals 79 23 (fun i => (#[.string al, .slice (some ⟨g 6, 0, none⟩) 0 0, .slice (some ⟨pb, 0, none⟩) n n, .pointer (some ⟨g 15, 0, none⟩), .slice aa 0 ac, .slice none 0 0, .int .i64 0, .slice (some ⟨g 22, 0, none⟩) n n, .slice (some ⟨g 28, 0, none⟩) 0 0, .slice none 0 0, .slice none 0 0, .slice (some ⟨g 34, 0, none⟩) n n, .slice (some ⟨g 40, 0, none⟩) 0 0, .slice none 0 0, .slice none 0 0, .slice (some ⟨bb, bo, none⟩) n bc, .slice (some ⟨g 51, 0, none⟩) n n, .slice none 0 0, .pointer none, .pointer none, .pointer none, .pointer none, .int .i64 0] : Array Value).getD i undef))) := hM
      clear hc hp hG hM
      unfold Oper.wp; generalize a.eval = ρ at *; go_simp; exact hK g w' (fun _ _ => rfl) hM'
    · intro l g a w' K hp hc hl hG hM hK
      have e29 : a.eval (.tmp 29) = .pointer (some ⟨fb, 0, none⟩) := hG.of 29 10 (by kernel_rfl) (preAt hc 55 _ hp (by kernel_rfl))
      have hM' : w0.Since w0.heap.size w' ∧ ((upd l 11 true) 45 = true → w0.heap.size ≤ g 45 ∧ w'.cell? ⟨g 45, 0, none⟩ = some (.int .i64 (-1))) ∧ ((upd l 11 true) 53 = true → w0.heap.size ≤ g 53 ∧ RowOk w' (g 53) (vals 79 23 (fun i => (#[.string al, .slice (some ⟨g 6, 0, none⟩) 0 0, .slice (some ⟨pb, 0, none⟩) n n, .pointer (some ⟨g 15, 0, none⟩), .slice aa 0 ac, .slice none 0 0, .int .i64 0, .slice (some ⟨g 22, 0, none⟩) n n, .slice (some ⟨g 28, 0, none⟩) 0 0, .slice none 0 0, .slice none 0 0, .slice (some ⟨g 34, 0, none⟩) n n, .slice (some ⟨g 40, 0, none⟩) 0 0, .slice none 0 0, .slice none 0 0, .slice (some ⟨bb, bo, none⟩) n bc, .slice (some ⟨g 51, 0, none⟩) n n, .slice none 0 0, .pointer none, .pointer none, .pointer none, .pointer none, .int .i64 0] : Array Value).getD i undef))) := hM
      clear hc hp hG hM
      unfold Oper.wp; generalize a.eval = ρ at *; go_simp; exact hK g w' (fun _ _ => rfl) hM'
    · intro l g a w' K hp hc hl hG hM hK
      have e30 : a.eval (.tmp 30) = .pointer (some ⟨fb, 9, none⟩) := hG.of 30 11 (by kernel_rfl) (preAt hc 55 _ hp (by kernel_rfl))
      have kk := old_cell hM.1 hk9
      have hM' : w0.Since w0.heap.size w' ∧ ((upd l 12 true) 45 = true → w0.heap.size ≤ g 45 ∧ w'.cell? ⟨g 45, 0, none⟩ = some (.int .i64 (-1))) ∧ ((upd l 12 true) 53 = true → w0.heap.size ≤ g 53 ∧ RowOk w' (g 53) (vals 79 23 (fun i => (#[.string al, .slice (some ⟨g 6, 0, none⟩) 0 0, .slice (some ⟨pb, 0, none⟩) n n, .pointer (some ⟨g 15, 0, none⟩), .slice aa 0 ac, .slice none 0 0, .int .i64 0, .slice (some ⟨g 22, 0, none⟩) n n, .slice (some ⟨g 28, 0, none⟩) 0 0, .slice none 0 0, .slice none 0 0, .slice (some ⟨g 34, 0, none⟩) n n, .slice (some ⟨g 40, 0, none⟩) 0 0, .slice none 0 0, .slice none 0 0, .slice (some ⟨bb, bo, none⟩) n bc, .slice (some ⟨g 51, 0, none⟩) n n, .slice none 0 0, .pointer none, .pointer none, .pointer none, .pointer none, .int .i64 0] : Array Value).getD i undef))) := hM
      clear hc hp hG hM
      unfold Oper.wp; generalize a.eval = ρ at *; go_simp; exact hK g w' (fun _ _ => rfl) hM'
    · intro l g a w' K hp hc hl hG hM hK
      have e31 : a.eval (.tmp 31) = .slice none 0 0 := hG.of 31 12 (by kernel_rfl) (preAt hc 55 _ hp (by kernel_rfl))
      have hM' : w0.Since w0.heap.size w' ∧ ((upd l 13 true) 45 = true → w0.heap.size ≤ g 45 ∧ w'.cell? ⟨g 45, 0, none⟩ = some (.int .i64 (-1))) ∧ ((upd l 13 true) 53 = true → w0.heap.size ≤ g 53 ∧ RowOk w' (g 53) (vals 79 23 (fun i => (#[.string al, .slice (some ⟨g 6, 0, none⟩) 0 0, .slice (some ⟨pb, 0, none⟩) n n, .pointer (some ⟨g 15, 0, none⟩), .slice aa 0 ac, .slice none 0 0, .int .i64 0, .slice (some ⟨g 22, 0, none⟩) n n, .slice (some ⟨g 28, 0, none⟩) 0 0, .slice none 0 0, .slice none 0 0, .slice (some ⟨g 34, 0, none⟩) n n, .slice (some ⟨g 40, 0, none⟩) 0 0, .slice none 0 0, .slice none 0 0, .slice (some ⟨bb, bo, none⟩) n bc, .slice (some ⟨g 51, 0, none⟩) n n, .slice none 0 0, .pointer none, .pointer none, .pointer none, .pointer none, .int .i64 0] : Array Value).getD i undef))) := hM
      clear hc hp hG hM
      unfold Oper.wp; generalize a.eval = ρ at *; go_simp; exact hK g w' (fun _ _ => rfl) hM'
    · intro l g a w' K hp hc hl hG hM hK
      have e7 : a.eval (.tmp 7) = .slice aa 0 ac := (hG.oldF hF 7 (by kernel_rfl) (by omega)).trans h7
      have hM' : w0.Since w0.heap.size w' ∧ ((upd l 14 true) 45 = true → w0.heap.size ≤ g 45 ∧ w'.cell? ⟨g 45, 0, none⟩ = some (.int .i64 (-1))) ∧ ((upd l 14 true) 53 = true → w0.heap.size ≤ g 53 ∧ RowOk w' (g 53) (vals 79 23 (fun i => (#[.string al, .slice (some ⟨g 6, 0, none⟩) 0 0, .slice (some ⟨pb, 0, none⟩) n n, .pointer (some ⟨g 15, 0, none⟩), .slice aa 0 ac, .slice none 0 0, .int .i64 0, .slice (some ⟨g 22, 0, none⟩) n n, .slice (some ⟨g 28, 0, none⟩) 0 0, .slice none 0 0, .slice none 0 0, .slice (some ⟨g 34, 0, none⟩) n n, .slice (some ⟨g 40, 0, none⟩) 0 0, .slice none 0 0, .slice none 0 0, .slice (some ⟨bb, bo, none⟩) n bc, .slice (some ⟨g 51, 0, none⟩) n n, .slice none 0 0, .pointer none, .pointer none, .pointer none, .pointer none, .int .i64 0] : Array Value).getD i undef))) := hM
      clear hc hp hG hM
      unfold Oper.wp; generalize a.eval = ρ at *; go_simp; exact hK g w' (fun _ _ => rfl) hM'
    · intro l g a w' K hp hc hl hG hM hK
      have e27 : a.eval (.tmp 27) = .pointer (some ⟨fb, 0, none⟩) := hG.of 27 8 (by kernel_rfl) (preAt hc 55 _ hp (by kernel_rfl))
      have e32 : a.eval (.tmp 32) = .int .i64 0 := hG.of 32 13 (by kernel_rfl) (preAt hc 55 _ hp (by kernel_rfl))
      have e33 : a.eval (.tmp 33) = .slice aa 0 ac := hG.of 33 14 (by kernel_rfl) (preAt hc 55 _ hp (by kernel_rfl))
      have ef : ∀ x, a.eval (.func x) = .func (.func x) #[] #[] := fun _ => rfl
      have HC := live_any (w0 := w') (n := n) (fb := fb) (aa := aa) (ac := ac) (hC.since hM.1) hn hn1 (old_cell hM.1 hk5)
      have FIN : Hid (∀ lv w'', w'.Since w'.heap.size w'' → K (a.put (some 34) (.pointer (some ⟨lv, 0, none⟩))) w'') := fun lv w'' h => hK (upd g 15 lv) w'' (fun i hi => by
              match i, hi with
              | 0, _ => rfl
              | 1, _ => rfl
              | 2, _ => rfl
              | 3, _ => rfl
              | 4, _ => rfl
              | 5, _ => rfl
              | 6, _ => rfl
              | 7, _ => rfl
              | 8, _ => rfl
              | 9, _ => rfl
              | 10, _ => rfl
              | 11, _ => rfl
              | 12, _ => rfl
              | 13, _ => rfl
              | 14, _ => rfl
              | 15, hi => exact absurd hi (by rw [hl]; decide)
              | 16, _ => rfl
              | 17, _ => rfl
              | 18, _ => rfl
              | 19, _ => rfl
              | 20, _ => rfl
              | 21, _ => rfl
              | 22, _ => rfl
              | 23, _ => rfl
              | 24, _ => rfl
              | 25, _ => rfl
              | 26, _ => rfl
              | 27, _ => rfl
              | 28, _ => rfl
              | 29, _ => rfl
              | 30, _ => rfl
              | 31, _ => rfl
              | 32, _ => rfl
              | 33, _ => rfl
              | 34, _ => rfl
              | 35, _ => rfl
              | 36, _ => rfl
              | 37, _ => rfl
              | 38, _ => rfl
              | 39, _ => rfl
              | 40, _ => rfl
              | 41, _ => rfl
              | 42, _ => rfl
              | 43, _ => rfl
              | 44, _ => rfl
              | 45, _ => rfl
              | 46, _ => rfl
              | 47, _ => rfl
              | 48, _ => rfl
              | 49, _ => rfl
              | 50, _ => rfl
              | 51, _ => rfl
              | 52, hi => exact absurd hi (by rw [hc.not 52 55 hl (by kernel_rfl)]; decide)
              | 53, _ => rfl
              | 54, _ => rfl
              | _ + 55, _ => rfl) ⟨hM.1.trans ⟨h.os, h.tape, h.output, h.size, fun i hi => h.block i (Nat.lt_of_lt_of_le hi hM.1.size)⟩, fun h' => by
        have h4 : l 45 = true := by rwa [upd_other _ _ (by omega)] at h'
        obtain ⟨q1, q2⟩ := hM.2.1 h4
        rw [upd_other _ _ (by omega)]
        exact ⟨q1, old_cell h q2⟩, fun h' => absurd h' (by rw [upd_other _ _ (by omega), hc.not 53 55 hl (by kernel_rfl)]; decide)⟩
      clear hK hc hp hG hM
      unfold Oper.wp; generalize hρ : a.eval = ρ at *; go_simp
      refine Calls.mono HC ?_
      rintro e w'' ⟨lv, rfl, h⟩
      exact FIN.out lv w'' h
    · intro l g a w' K hp hc hl hG hM hK
      have e7 : a.eval (.tmp 7) = .slice aa 0 ac := (hG.oldF hF 7 (by kernel_rfl) (by omega)).trans h7
      have hM' : w0.Since w0.heap.size w' ∧ ((upd l 16 true) 45 = true → w0.heap.size ≤ g 45 ∧ w'.cell? ⟨g 45, 0, none⟩ = some (.int .i64 (-1))) ∧ ((upd l 16 true) 53 = true → w0.heap.size ≤ g 53 ∧ RowOk w' (g 53) (vals 79 23 (fun i => (#[.string al, .slice (some ⟨g 6, 0, none⟩) 0 0, .slice (some ⟨pb, 0, none⟩) n n, .pointer (some ⟨g 15, 0, none⟩), .slice aa 0 ac, .slice none 0 0, .int .i64 0, .slice (some ⟨g 22, 0, none⟩) n n, .slice (some ⟨g 28, 0, none⟩) 0 0, .slice none 0 0, .slice none 0 0, .slice (some ⟨g 34, 0, none⟩) n n, .slice (some ⟨g 40, 0, none⟩) 0 0, .slice none 0 0, .slice none 0 0, .slice (some ⟨bb, bo, none⟩) n bc, .slice (some ⟨g 51, 0, none⟩) n n, .slice none 0 0, .pointer none, .pointer none, .pointer none, .pointer none, .int .i64 0] : Array Value).getD i undef))) := hM
      clear hc hp hG hM
      unfold Oper.wp; generalize a.eval = ρ at *; go_simp; exact hK g w' (fun _ _ => rfl) hM'
    · intro l g a w' K hp hc hl hG hM hK
      have e0 : a.eval (.tmp 0) = .pointer (some ⟨fb, 0, none⟩) := (hG.oldF hF 0 (by kernel_rfl) (by omega)).trans h0
      have hM' : w0.Since w0.heap.size w' ∧ ((upd l 17 true) 45 = true → w0.heap.size ≤ g 45 ∧ w'.cell? ⟨g 45, 0, none⟩ = some (.int .i64 (-1))) ∧ ((upd l 17 true) 53 = true → w0.heap.size ≤ g 53 ∧ RowOk w' (g 53) (vals 79 23 (fun i => (#[.string al, .slice (some ⟨g 6, 0, none⟩) 0 0, .slice (some ⟨pb, 0, none⟩) n n, .pointer (some ⟨g 15, 0, none⟩), .slice aa 0 ac, .slice none 0 0, .int .i64 0, .slice (some ⟨g 22, 0, none⟩) n n, .slice (some ⟨g 28, 0, none⟩) 0 0, .slice none 0 0, .slice none 0 0, .slice (some ⟨g 34, 0, none⟩) n n, .slice (some ⟨g 40, 0, none⟩) 0 0, .slice none 0 0, .slice none 0 0, .slice (some ⟨bb, bo, none⟩) n bc, .slice (some ⟨g 51, 0, none⟩) n n, .slice none 0 0, .pointer none, .pointer none, .pointer none, .pointer none, .int .i64 0] : Array Value).getD i undef))) := hM
      clear hc hp hG hM
      unfold Oper.wp; generalize a.eval = ρ at *; go_simp; exact hK g w' (fun _ _ => rfl) hM'
    · intro l g a w' K hp hc hl hG hM hK
      have e36 : a.eval (.tmp 36) = .pointer (some ⟨fb, 0, none⟩) := hG.of 36 17 (by kernel_rfl) (preAt hc 55 _ hp (by kernel_rfl))
      have hM' : w0.Since w0.heap.size w' ∧ ((upd l 18 true) 45 = true → w0.heap.size ≤ g 45 ∧ w'.cell? ⟨g 45, 0, none⟩ = some (.int .i64 (-1))) ∧ ((upd l 18 true) 53 = true → w0.heap.size ≤ g 53 ∧ RowOk w' (g 53) (vals 79 23 (fun i => (#[.string al, .slice (some ⟨g 6, 0, none⟩) 0 0, .slice (some ⟨pb, 0, none⟩) n n, .pointer (some ⟨g 15, 0, none⟩), .slice aa 0 ac, .slice none 0 0, .int .i64 0, .slice (some ⟨g 22, 0, none⟩) n n, .slice (some ⟨g 28, 0, none⟩) 0 0, .slice none 0 0, .slice none 0 0, .slice (some ⟨g 34, 0, none⟩) n n, .slice (some ⟨g 40, 0, none⟩) 0 0, .slice none 0 0, .slice none 0 0, .slice (some ⟨bb, bo, none⟩) n bc, .slice (some ⟨g 51, 0, none⟩) n n, .slice none 0 0, .pointer none, .pointer none, .pointer none, .pointer none, .int .i64 0] : Array Value).getD i undef))) := hM
      clear hc hp hG hM
      unfold Oper.wp; generalize a.eval = ρ at *; go_simp; exact hK g w' (fun _ _ => rfl) hM'
    · intro l g a w' K hp hc hl hG hM hK
      have e37 : a.eval (.tmp 37) = .pointer (some ⟨fb, 0, none⟩) := hG.of 37 18 (by kernel_rfl) (preAt hc 55 _ hp (by kernel_rfl))
      have hM' : w0.Since w0.heap.size w' ∧ ((upd l 19 true) 45 = true → w0.heap.size ≤ g 45 ∧ w'.cell? ⟨g 45, 0, none⟩ = some (.int .i64 (-1))) ∧ ((upd l 19 true) 53 = true → w0.heap.size ≤ g 53 ∧ RowOk w' (g 53) (vals 79 23 (fun i => (#[.string al, .slice (some ⟨g 6, 0, none⟩) 0 0, .slice (some ⟨pb, 0, none⟩) n n, .pointer (some ⟨g 15, 0, none⟩), .slice aa 0 ac, .slice none 0 0, .int .i64 0, .slice (some ⟨g 22, 0, none⟩) n n, .slice (some ⟨g 28, 0, none⟩) 0 0, .slice none 0 0, .slice none 0 0, .slice (some ⟨g 34, 0, none⟩) n n, .slice (some ⟨g 40, 0, none⟩) 0 0, .slice none 0 0, .slice none 0 0, .slice (some ⟨bb, bo, none⟩) n bc, .slice (some ⟨g 51, 0, none⟩) n n, .slice none 0 0, .pointer none, .pointer none, .pointer none, .pointer none, .int .i64 0] : Array Value).getD i undef))) := hM
      clear hc hp hG hM
      unfold Oper.wp; generalize a.eval = ρ at *; go_simp; exact hK g w' (fun _ _ => rfl) hM'
    · intro l g a w' K hp hc hl hG hM hK
      have e38 : a.eval (.tmp 38) = .pointer (some ⟨fb, 11, none⟩) := hG.of 38 19 (by kernel_rfl) (preAt hc 55 _ hp (by kernel_rfl))
      have kk := old_cell hM.1 hk11
      have hM' : w0.Since w0.heap.size w' ∧ ((upd l 20 true) 45 = true → w0.heap.size ≤ g 45 ∧ w'.cell? ⟨g 45, 0, none⟩ = some (.int .i64 (-1))) ∧ ((upd l 20 true) 53 = true → w0.heap.size ≤ g 53 ∧ RowOk w' (g 53) (vals 79 23 (fun i => (#[.string al, .slice (some ⟨g 6, 0, none⟩) 0 0, .slice (some ⟨pb, 0, none⟩) n n, .pointer (some ⟨g 15, 0, none⟩), .slice aa 0 ac, .slice none 0 0, .int .i64 0, .slice (some ⟨g 22, 0, none⟩) n n, .slice (some ⟨g 28, 0, none⟩) 0 0, .slice none 0 0, .slice none 0 0, .slice (some ⟨g 34, 0, none⟩) n n, .slice (some ⟨g 40, 0, none⟩) 0 0, .slice none 0 0, .slice none 0 0, .slice (some ⟨bb, bo, none⟩) n bc, .slice (some ⟨g 51, 0, none⟩) n n, .slice none 0 0, .pointer none, .pointer none, .pointer none, .pointer none, .int .i64 0] : Array Value).getD i undef))) := hM
      clear hc hp hG hM
      unfold Oper.wp; generalize a.eval = ρ at *; go_simp; exact hK g w' (fun _ _ => rfl) hM'
    · intro l g a w' K hp hc hl hG hM hK
      have e39 : a.eval (.tmp 39) = .slice (some ⟨bb, bo, none⟩) n bc := hG.of 39 20 (by kernel_rfl) (preAt hc 55 _ hp (by kernel_rfl))
      have hM' : w0.Since w0.heap.size w' ∧ ((upd l 21 true) 45 = true → w0.heap.size ≤ g 45 ∧ w'.cell? ⟨g 45, 0, none⟩ = some (.int .i64 (-1))) ∧ ((upd l 21 true) 53 = true → w0.heap.size ≤ g 53 ∧ RowOk w' (g 53) (vals 79 23 (fun i => (#[.string al, .slice (some ⟨g 6, 0, none⟩) 0 0, .slice (some ⟨pb, 0, none⟩) n n, .pointer (some ⟨g 15, 0, none⟩), .slice aa 0 ac, .slice none 0 0, .int .i64 0, .slice (some ⟨g 22, 0, none⟩) n n, .slice (some ⟨g 28, 0, none⟩) 0 0, .slice none 0 0, .slice none 0 0, .slice (some ⟨g 34, 0, none⟩) n n, .slice (some ⟨g 40, 0, none⟩) 0 0, .slice none 0 0, .slice none 0 0, .slice (some ⟨bb, bo, none⟩) n bc, .slice (some ⟨g 51, 0, none⟩) n n, .slice none 0 0, .pointer none, .pointer none, .pointer none, .pointer none, .int .i64 0] : Array Value).getD i undef))) := hM
      clear hc hp hG hM
      unfold Oper.wp; generalize a.eval = ρ at *; go_simp; exact hK g w' (fun _ _ => rfl) hM'
    · intro l g a w' K hp hc hl hG hM hK
      have e40 : a.eval (.tmp 40) = .int .i64 (n : Nat) := hG.of 40 21 (by kernel_rfl) (preAt hc 55 _ hp (by kernel_rfl))
      refine op_make mty46 (.tmp 40) (.tmp 40) rfl n n e40 e40 (Nat.le_refl _) (by omega) ?_
      exact hK (upd g 22 w'.heap.size) _ (fun i hi => by
              match i, hi with
              | 0, _ => rfl
              | 1, _ => rfl
              | 2, _ => rfl
              | 3, _ => rfl
              | 4, _ => rfl
              | 5, _ => rfl
              | 6, _ => rfl
              | 7, _ => rfl
              | 8, _ => rfl
              | 9, _ => rfl
              | 10, _ => rfl
              | 11, _ => rfl
              | 12, _ => rfl
              | 13, _ => rfl
              | 14, _ => rfl
              | 15, _ => rfl
              | 16, _ => rfl
              | 17, _ => rfl
              | 18, _ => rfl
              | 19, _ => rfl
              | 20, _ => rfl
              | 21, _ => rfl
              | 22, hi => exact absurd hi (by rw [hl]; decide)
              | 23, _ => rfl
              | 24, _ => rfl
              | 25, _ => rfl
              | 26, _ => rfl
              | 27, _ => rfl
              | 28, _ => rfl
              | 29, _ => rfl
              | 30, _ => rfl
              | 31, _ => rfl
              | 32, _ => rfl
              | 33, _ => rfl
              | 34, _ => rfl
              | 35, _ => rfl
              | 36, _ => rfl
              | 37, _ => rfl
              | 38, _ => rfl
              | 39, _ => rfl
              | 40, _ => rfl
              | 41, _ => rfl
              | 42, _ => rfl
              | 43, _ => rfl
              | 44, _ => rfl
              | 45, _ => rfl
              | 46, _ => rfl
              | 47, _ => rfl
              | 48, _ => rfl
              | 49, _ => rfl
              | 50, _ => rfl
              | 51, _ => rfl
              | 52, hi => exact absurd hi (by rw [hc.not 52 55 hl (by kernel_rfl)]; decide)
              | 53, _ => rfl
              | 54, _ => rfl
              | _ + 55, _ => rfl) ⟨hM.1.alloc hM.1.size _, fun h' => by
        have h4 : l 45 = true := by rwa [upd_other _ _ (by omega)] at h'
        obtain ⟨q1, q2⟩ := hM.2.1 h4
        rw [upd_other _ _ (by omega)]
        exact ⟨q1, old_cell (alloc_since _ _) q2⟩, fun h' => absurd h' (by rw [upd_other _ _ (by omega), hc.not 53 55 hl (by kernel_rfl)]; decide)⟩
    · intro l g a w' K hp hc hl hG hM hK
      have e0 : a.eval (.tmp 0) = .pointer (some ⟨fb, 0, none⟩) := (hG.oldF hF 0 (by kernel_rfl) (by omega)).trans h0
      have hM' : w0.Since w0.heap.size w' ∧ ((upd l 23 true) 45 = true → w0.heap.size ≤ g 45 ∧ w'.cell? ⟨g 45, 0, none⟩ = some (.int .i64 (-1))) ∧ ((upd l 23 true) 53 = true → w0.heap.size ≤ g 53 ∧ RowOk w' (g 53) (vals 79 23 (fun i => (#[.string al, .slice (some ⟨g 6, 0, none⟩) 0 0, .slice (some ⟨pb, 0, none⟩) n n, .pointer (some ⟨g 15, 0, none⟩), .slice aa 0 ac, .slice none 0 0, .int .i64 0, .slice (some ⟨g 22, 0, none⟩) n n, .slice (some ⟨g 28, 0, none⟩) 0 0, .slice none 0 0, .slice none 0 0, .slice (some ⟨g 34, 0, none⟩) n n, .slice (some ⟨g 40, 0, none⟩) 0 0, .slice none 0 0, .slice none 0 0, .slice (some ⟨bb, bo, none⟩) n bc, .slice (some ⟨g 51, 0, none⟩) n n, .slice none 0 0, .pointer none, .pointer none, .pointer none, .pointer none, .int .i64 0] : Array Value).getD i undef))) := hM
      clear hc hp hG hM
      unfold Oper.wp; generalize a.eval = ρ at *; go_simp; exact hK g w' (fun _ _ => rfl) hM'
    · intro l g a w' K hp hc hl hG hM hK
      have e42 : a.eval (.tmp 42) = .pointer (some ⟨fb, 0, none⟩) := hG.of 42 23 (by kernel_rfl) (preAt hc 55 _ hp (by kernel_rfl))
      have hM' : w0.Since w0.heap.size w' ∧ ((upd l 24 true) 45 = true → w0.heap.size ≤ g 45 ∧ w'.cell? ⟨g 45, 0, none⟩ = some (.int .i64 (-1))) ∧ ((upd l 24 true) 53 = true → w0.heap.size ≤ g 53 ∧ RowOk w' (g 53) (vals 79 23 (fun i => (#[.string al, .slice (some ⟨g 6, 0, none⟩) 0 0, .slice (some ⟨pb, 0, none⟩) n n, .pointer (some ⟨g 15, 0, none⟩), .slice aa 0 ac, .slice none 0 0, .int .i64 0, .slice (some ⟨g 22, 0, none⟩) n n, .slice (some ⟨g 28, 0, none⟩) 0 0, .slice none 0 0, .slice none 0 0, .slice (some ⟨g 34, 0, none⟩) n n, .slice (some ⟨g 40, 0, none⟩) 0 0, .slice none 0 0, .slice none 0 0, .slice (some ⟨bb, bo, none⟩) n bc, .slice (some ⟨g 51, 0, none⟩) n n, .slice none 0 0, .pointer none, .pointer none, .pointer none, .pointer none, .int .i64 0] : Array Value).getD i undef))) := hM
      clear hc hp hG hM
      unfold Oper.wp; generalize a.eval = ρ at *; go_simp; exact hK g w' (fun _ _ => rfl) hM'
    · intro l g a w' K hp hc hl hG hM hK
      have e43 : a.eval (.tmp 43) = .pointer (some ⟨fb, 0, none⟩) := hG.of 43 24 (by kernel_rfl) (preAt hc 55 _ hp (by kernel_rfl))
      have hM' : w0.Since w0.heap.size w' ∧ ((upd l 25 true) 45 = true → w0.heap.size ≤ g 45 ∧ w'.cell? ⟨g 45, 0, none⟩ = some (.int .i64 (-1))) ∧ ((upd l 25 true) 53 = true → w0.heap.size ≤ g 53 ∧ RowOk w' (g 53) (vals 79 23 (fun i => (#[.string al, .slice (some ⟨g 6, 0, none⟩) 0 0, .slice (some ⟨pb, 0, none⟩) n n, .pointer (some ⟨g 15, 0, none⟩), .slice aa 0 ac, .slice none 0 0, .int .i64 0, .slice (some ⟨g 22, 0, none⟩) n n, .slice (some ⟨g 28, 0, none⟩) 0 0, .slice none 0 0, .slice none 0 0, .slice (some ⟨g 34, 0, none⟩) n n, .slice (some ⟨g 40, 0, none⟩) 0 0, .slice none 0 0, .slice none 0 0, .slice (some ⟨bb, bo, none⟩) n bc, .slice (some ⟨g 51, 0, none⟩) n n, .slice none 0 0, .pointer none, .pointer none, .pointer none, .pointer none, .int .i64 0] : Array Value).getD i undef))) := hM
      clear hc hp hG hM
      unfold Oper.wp; generalize a.eval = ρ at *; go_simp; exact hK g w' (fun _ _ => rfl) hM'
    · intro l g a w' K hp hc hl hG hM hK
      have e44 : a.eval (.tmp 44) = .pointer (some ⟨fb, 9, none⟩) := hG.of 44 25 (by kernel_rfl) (preAt hc 55 _ hp (by kernel_rfl))
      have kk := old_cell hM.1 hk9
      have hM' : w0.Since w0.heap.size w' ∧ ((upd l 26 true) 45 = true → w0.heap.size ≤ g 45 ∧ w'.cell? ⟨g 45, 0, none⟩ = some (.int .i64 (-1))) ∧ ((upd l 26 true) 53 = true → w0.heap.size ≤ g 53 ∧ RowOk w' (g 53) (vals 79 23 (fun i => (#[.string al, .slice (some ⟨g 6, 0, none⟩) 0 0, .slice (some ⟨pb, 0, none⟩) n n, .pointer (some ⟨g 15, 0, none⟩), .slice aa 0 ac, .slice none 0 0, .int .i64 0, .slice (some ⟨g 22, 0, none⟩) n n, .slice (some ⟨g 28, 0, none⟩) 0 0, .slice none 0 0, .slice none 0 0, .slice (some ⟨g 34, 0, none⟩) n n, .slice (some ⟨g 40, 0, none⟩) 0 0, .slice none 0 0, .slice none 0 0, .slice (some ⟨bb, bo, none⟩) n bc, .slice (some ⟨g 51, 0, none⟩) n n, .slice none 0 0, .pointer none, .pointer none, .pointer none, .pointer none, .int .i64 0] : Array Value).getD i undef))) := hM
      clear hc hp hG hM
      unfold Oper.wp; generalize a.eval = ρ at *; go_simp; exact hK g w' (fun _ _ => rfl) hM'
    · intro l g a w' K hp hc hl hG hM hK
      have e45 : a.eval (.tmp 45) = .slice none 0 0 := hG.of 45 26 (by kernel_rfl) (preAt hc 55 _ hp (by kernel_rfl))
      have hM' : w0.Since w0.heap.size w' ∧ ((upd l 27 true) 45 = true → w0.heap.size ≤ g 45 ∧ w'.cell? ⟨g 45, 0, none⟩ = some (.int .i64 (-1))) ∧ ((upd l 27 true) 53 = true → w0.heap.size ≤ g 53 ∧ RowOk w' (g 53) (vals 79 23 (fun i => (#[.string al, .slice (some ⟨g 6, 0, none⟩) 0 0, .slice (some ⟨pb, 0, none⟩) n n, .pointer (some ⟨g 15, 0, none⟩), .slice aa 0 ac, .slice none 0 0, .int .i64 0, .slice (some ⟨g 22, 0, none⟩) n n, .slice (some ⟨g 28, 0, none⟩) 0 0, .slice none 0 0, .slice none 0 0, .slice (some ⟨g 34, 0, none⟩) n n, .slice (some ⟨g 40, 0, none⟩) 0 0, .slice none 0 0, .slice none 0 0, .slice (some ⟨bb, bo, none⟩) n bc, .slice (some ⟨g 51, 0, none⟩) n n, .slice none 0 0, .pointer none, .pointer none, .pointer none, .pointer none, .int .i64 0] : Array Value).getD i undef))) := hM
      clear hc hp hG hM
      unfold Oper.wp; generalize a.eval = ρ at *; go_simp; exact hK g w' (fun _ _ => rfl) hM'
    · intro l g a w' K hp hc hl hG hM hK
      have e46 : a.eval (.tmp 46) = .int .i64 0 := hG.of 46 27 (by kernel_rfl) (preAt hc 55 _ hp (by kernel_rfl))
      refine op_make mty46 (.tmp 46) (.tmp 46) rfl 0 0 e46 e46 (Nat.le_refl _) (by omega) ?_
      exact hK (upd g 28 w'.heap.size) _ (fun i hi => by
              match i, hi with
              | 0, _ => rfl
              | 1, _ => rfl
              | 2, _ => rfl
              | 3, _ => rfl
              | 4, _ => rfl
              | 5, _ => rfl
              | 6, _ => rfl
              | 7, _ => rfl
              | 8, _ => rfl
              | 9, _ => rfl
              | 10, _ => rfl
              | 11, _ => rfl
              | 12, _ => rfl
              | 13, _ => rfl
              | 14, _ => rfl
              | 15, _ => rfl
              | 16, _ => rfl
              | 17, _ => rfl
              | 18, _ => rfl
              | 19, _ => rfl
              | 20, _ => rfl
              | 21, _ => rfl
              | 22, _ => rfl
              | 23, _ => rfl
              | 24, _ => rfl
              | 25, _ => rfl
              | 26, _ => rfl
              | 27, _ => rfl
              | 28, hi => exact absurd hi (by rw [hl]; decide)
              | 29, _ => rfl
              | 30, _ => rfl
              | 31, _ => rfl
              | 32, _ => rfl
              | 33, _ => rfl
              | 34, _ => rfl
              | 35, _ => rfl
              | 36, _ => rfl
              | 37, _ => rfl
              | 38, _ => rfl
              | 39, _ => rfl
              | 40, _ => rfl
              | 41, _ => rfl
              | 42, _ => rfl
              | 43, _ => rfl
              | 44, _ => rfl
              | 45, _ => rfl
              | 46, _ => rfl
              | 47, _ => rfl
              | 48, _ => rfl
              | 49, _ => rfl
              | 50, _ => rfl
              | 51, _ => rfl
              | 52, hi => exact absurd hi (by rw [hc.not 52 55 hl (by kernel_rfl)]; decide)
              | 53, _ => rfl
              | 54, _ => rfl
              | _ + 55, _ => rfl) ⟨hM.1.alloc hM.1.size _, fun h' => by
        have h4 : l 45 = true := by rwa [upd_other _ _ (by omega)] at h'
        obtain ⟨q1, q2⟩ := hM.2.1 h4
        rw [upd_other _ _ (by omega)]
        exact ⟨q1, old_cell (alloc_since _ _) q2⟩, fun h' => absurd h' (by rw [upd_other _ _ (by omega), hc.not 53 55 hl (by kernel_rfl)]; decide)⟩
    · intro l g a w' K hp hc hl hG hM hK
      have e0 : a.eval (.tmp 0) = .pointer (some ⟨fb, 0, none⟩) := (hG.oldF hF 0 (by kernel_rfl) (by omega)).trans h0
      have hM' : w0.Since w0.heap.size w' ∧ ((upd l 29 true) 45 = true → w0.heap.size ≤ g 45 ∧ w'.cell? ⟨g 45, 0, none⟩ = some (.int .i64 (-1))) ∧ ((upd l 29 true) 53 = true → w0.heap.size ≤ g 53 ∧ RowOk w' (g 53) (vals 79 23 (fun i => (#[.string al, .slice (some ⟨g 6, 0, none⟩) 0 0, .slice (some ⟨pb, 0, none⟩) n n, .pointer (some ⟨g 15, 0, none⟩), .slice aa 0 ac, .slice none 0 0, .int .i64 0, .slice (some ⟨g 22, 0, none⟩) n n, .slice (some ⟨g 28, 0, none⟩) 0 0, .slice none 0 0, .slice none 0 0, .slice (some ⟨g 34, 0, none⟩) n n, .slice (some ⟨g 40, 0, none⟩) 0 0, .slice none 0 0, .slice none 0 0, .slice (some ⟨bb, bo, none⟩) n bc, .slice (some ⟨g 51, 0, none⟩) n n, .slice none 0 0, .pointer none, .pointer none, .pointer none, .pointer none, .int .i64 0] : Array Value).getD i undef))) := hM
      clear hc hp hG hM
      unfold Oper.wp; generalize a.eval = ρ at *; go_simp; exact hK g w' (fun _ _ => rfl) hM'
    · intro l g a w' K hp hc hl hG hM hK
      have e48 : a.eval (.tmp 48) = .pointer (some ⟨fb, 0, none⟩) := hG.of 48 29 (by kernel_rfl) (preAt hc 55 _ hp (by kernel_rfl))
      have hM' : w0.Since w0.heap.size w' ∧ ((upd l 30 true) 45 = true → w0.heap.size ≤ g 45 ∧ w'.cell? ⟨g 45, 0, none⟩ = some (.int .i64 (-1))) ∧ ((upd l 30 true) 53 = true → w0.heap.size ≤ g 53 ∧ RowOk w' (g 53) (vals 79 23 (fun i => (#[.string al, .slice (some ⟨g 6, 0, none⟩) 0 0, .slice (some ⟨pb, 0, none⟩) n n, .pointer (some ⟨g 15, 0, none⟩), .slice aa 0 ac, .slice none 0 0, .int .i64 0, .slice (some ⟨g 22, 0, none⟩) n n, .slice (some ⟨g 28, 0, none⟩) 0 0, .slice none 0 0, .slice none 0 0, .slice (some ⟨g 34, 0, none⟩) n n, .slice (some ⟨g 40, 0, none⟩) 0 0, .slice none 0 0, .slice none 0 0, .slice (some ⟨bb, bo, none⟩) n bc, .slice (some ⟨g 51, 0, none⟩) n n, .slice none 0 0, .pointer none, .pointer none, .pointer none, .pointer none, .int .i64 0] : Array Value).getD i undef))) := hM
      clear hc hp hG hM
      unfold Oper.wp; generalize a.eval = ρ at *; go_simp; exact hK g w' (fun _ _ => rfl) hM'
    · intro l g a w' K hp hc hl hG hM hK
      have e49 : a.eval (.tmp 49) = .pointer (some ⟨fb, 0, none⟩) := hG.of 49 30 (by kernel_rfl) (preAt hc 55 _ hp (by kernel_rfl))
      have hM' : w0.Since w0.heap.size w' ∧ ((upd l 31 true) 45 = true → w0.heap.size ≤ g 45 ∧ w'.cell? ⟨g 45, 0, none⟩ = some (.int .i64 (-1))) ∧ ((upd l 31 true) 53 = true → w0.heap.size ≤ g 53 ∧ RowOk w' (g 53) (vals 79 23 (fun i => (#[.string al, .slice (some ⟨g 6, 0, none⟩) 0 0, .slice (some ⟨pb, 0, none⟩) n n, .pointer (some ⟨g 15, 0, none⟩), .slice aa 0 ac, .slice none 0 0, .int .i64 0, .slice (some ⟨g 22, 0, none⟩) n n, .slice (some ⟨g 28, 0, none⟩) 0 0, .slice none 0 0, .slice none 0 0, .slice (some ⟨g 34, 0, none⟩) n n, .slice (some ⟨g 40, 0, none⟩) 0 0, .slice none 0 0, .slice none 0 0, .slice (some ⟨bb, bo, none⟩) n bc, .slice (some ⟨g 51, 0, none⟩) n n, .slice none 0 0, .pointer none, .pointer none, .pointer none, .pointer none, .int .i64 0] : Array Value).getD i undef))) := hM
      clear hc hp hG hM
      unfold Oper.wp; generalize a.eval = ρ at *; go_simp; exact hK g w' (fun _ _ => rfl) hM'
    · intro l g a w' K hp hc hl hG hM hK
      have e50 : a.eval (.tmp 50) = .pointer (some ⟨fb, 11, none⟩) := hG.of 50 31 (by kernel_rfl) (preAt hc 55 _ hp (by kernel_rfl))
      have kk := old_cell hM.1 hk11
      have hM' : w0.Since w0.heap.size w' ∧ ((upd l 32 true) 45 = true → w0.heap.size ≤ g 45 ∧ w'.cell? ⟨g 45, 0, none⟩ = some (.int .i64 (-1))) ∧ ((upd l 32 true) 53 = true → w0.heap.size ≤ g 53 ∧ RowOk w' (g 53) (vals 79 23 (fun i => (#[.string al, .slice (some ⟨g 6, 0, none⟩) 0 0, .slice (some ⟨pb, 0, none⟩) n n, .pointer (some ⟨g 15, 0, none⟩), .slice aa 0 ac, .slice none 0 0, .int .i64 0, .slice (some ⟨g 22, 0, none⟩) n n, .slice (some ⟨g 28, 0, none⟩) 0 0, .slice none 0 0, .slice none 0 0, .slice (some ⟨g 34, 0, none⟩) n n, .slice (some ⟨g 40, 0, none⟩) 0 0, .slice none 0 0, .slice none 0 0, .slice (some ⟨bb, bo, none⟩) n bc, .slice (some ⟨g 51, 0, none⟩) n n, .slice none 0 0, .pointer none, .pointer none, .pointer none, .pointer none, .int .i64 0] : Array Value).getD i undef))) := hM
      clear hc hp hG hM
      unfold Oper.wp; generalize a.eval = ρ at *; go_simp; exact hK g w' (fun _ _ => rfl) hM'
    · intro l g a w' K hp hc hl hG hM hK
      have e51 : a.eval (.tmp 51) = .slice (some ⟨bb, bo, none⟩) n bc := hG.of 51 32 (by kernel_rfl) (preAt hc 55 _ hp (by kernel_rfl))
      have hM' : w0.Since w0.heap.size w' ∧ ((upd l 33 true) 45 = true → w0.heap.size ≤ g 45 ∧ w'.cell? ⟨g 45, 0, none⟩ = some (.int .i64 (-1))) ∧ ((upd l 33 true) 53 = true → w0.heap.size ≤ g 53 ∧ RowOk w' (g 53) (vals 79 23 (fun i => (#[.string al, .slice (some ⟨g 6, 0, none⟩) 0 0, .slice (some ⟨pb, 0, none⟩) n n, .pointer (some ⟨g 15, 0, none⟩), .slice aa 0 ac, .slice none 0 0, .int .i64 0, .slice (some ⟨g 22, 0, none⟩) n n, .slice (some ⟨g 28, 0, none⟩) 0 0, .slice none 0 0, .slice none 0 0, .slice (some ⟨g 34, 0, none⟩) n n, .slice (some ⟨g 40, 0, none⟩) 0 0, .slice none 0 0, .slice none 0 0, .slice (some ⟨bb, bo, none⟩) n bc, .slice (some ⟨g 51, 0, none⟩) n n, .slice none 0 0, .pointer none, .pointer none, .pointer none, .pointer none, .int .i64 0] : Array Value).getD i undef))) := hM
      clear hc hp hG hM
      unfold Oper.wp; generalize a.eval = ρ at *; go_simp; exact hK g w' (fun _ _ => rfl) hM'
    · intro l g a w' K hp hc hl hG hM hK
      have e52 : a.eval (.tmp 52) = .int .i64 (n : Nat) := hG.of 52 33 (by kernel_rfl) (preAt hc 55 _ hp (by kernel_rfl))
      refine op_make mty46 (.tmp 52) (.tmp 52) rfl n n e52 e52 (Nat.le_refl _) (by omega) ?_
      exact hK (upd g 34 w'.heap.size) _ (fun i hi => by
              match i, hi with
              | 0, _ => rfl
              | 1, _ => rfl
              | 2, _ => rfl
              | 3, _ => rfl
              | 4, _ => rfl
              | 5, _ => rfl
              | 6, _ => rfl
              | 7, _ => rfl
              | 8, _ => rfl
              | 9, _ => rfl
              | 10, _ => rfl
              | 11, _ => rfl
              | 12, _ => rfl
              | 13, _ => rfl
              | 14, _ => rfl
              | 15, _ => rfl
              | 16, _ => rfl
              | 17, _ => rfl
              | 18, _ => rfl
              | 19, _ => rfl
              | 20, _ => rfl
              | 21, _ => rfl
              | 22, _ => rfl
              | 23, _ => rfl
              | 24, _ => rfl
              | 25, _ => rfl
              | 26, _ => rfl
              | 27, _ => rfl
              | 28, _ => rfl
              | 29, _ => rfl
              | 30, _ => rfl
              | 31, _ => rfl
              | 32, _ => rfl
              | 33, _ => rfl
              | 34, hi => exact absurd hi (by rw [hl]; decide)
              | 35, _ => rfl
              | 36, _ => rfl
              | 37, _ => rfl
              | 38, _ => rfl
              | 39, _ => rfl
              | 40, _ => rfl
              | 41, _ => rfl
              | 42, _ => rfl
              | 43, _ => rfl
              | 44, _ => rfl
              | 45, _ => rfl
              | 46, _ => rfl
              | 47, _ => rfl
              | 48, _ => rfl
              | 49, _ => rfl
              | 50, _ => rfl
              | 51, _ => rfl
              | 52, hi => exact absurd hi (by rw [hc.not 52 55 hl (by kernel_rfl)]; decide)
              | 53, _ => rfl
              | 54, _ => rfl
              | _ + 55, _ => rfl) ⟨hM.1.alloc hM.1.size _, fun h' => by
        have h4 : l 45 = true := by rwa [upd_other _ _ (by omega)] at h'
        obtain ⟨q1, q2⟩ := hM.2.1 h4
        rw [upd_other _ _ (by omega)]
        exact ⟨q1, old_cell (alloc_since _ _) q2⟩, fun h' => absurd h' (by rw [upd_other _ _ (by omega), hc.not 53 55 hl (by kernel_rfl)]; decide)⟩
    · intro l g a w' K hp hc hl hG hM hK
      have e0 : a.eval (.tmp 0) = .pointer (some ⟨fb, 0, none⟩) := (hG.oldF hF 0 (by kernel_rfl) (by omega)).trans h0
      have hM' : w0.Since w0.heap.size w' ∧ ((upd l 35 true) 45 = true → w0.heap.size ≤ g 45 ∧ w'.cell? ⟨g 45, 0, none⟩ = some (.int .i64 (-1))) ∧ ((upd l 35 true) 53 = true → w0.heap.size ≤ g 53 ∧ RowOk w' (g 53) (vals 79 23 (fun i => (#[.string al, .slice (some ⟨g 6, 0, none⟩) 0 0, .slice (some ⟨pb, 0, none⟩) n n, .pointer (some ⟨g 15, 0, none⟩), .slice aa 0 ac, .slice none 0 0, .int .i64 0, .slice (some ⟨g 22, 0, none⟩) n n, .slice (some ⟨g 28, 0, none⟩) 0 0, .slice none 0 0, .slice none 0 0, .slice (some ⟨g 34, 0, none⟩) n n, .slice (some ⟨g 40, 0, none⟩) 0 0, .slice none 0 0, .slice none 0 0, .slice (some ⟨bb, bo, none⟩) n bc, .slice (some ⟨g 51, 0, none⟩) n n, .slice none 0 0, .pointer none, .pointer none, .pointer none, .pointer none, .int .i64 0] : Array Value).getD i undef))) := hM
      clear hc hp hG hM
      unfold Oper.wp; generalize a.eval = ρ at *; go_simp; exact hK g w' (fun _ _ => rfl) hM'
    · intro l g a w' K hp hc hl hG hM hK
      have e54 : a.eval (.tmp 54) = .pointer (some ⟨fb, 0, none⟩) := hG.of 54 35 (by kernel_rfl) (preAt hc 55 _ hp (by kernel_rfl))
      have hM' : w0.Since w0.heap.size w' ∧ ((upd l 36 true) 45 = true → w0.heap.size ≤ g 45 ∧ w'.cell? ⟨g 45, 0, none⟩ = some (.int .i64 (-1))) ∧ ((upd l 36 true) 53 = true → w0.heap.size ≤ g 53 ∧ RowOk w' (g 53) (vals 79 23 (fun i => (#[.string al, .slice (some ⟨g 6, 0, none⟩) 0 0, .slice (some ⟨pb, 0, none⟩) n n, .pointer (some ⟨g 15, 0, none⟩), .slice aa 0 ac, .slice none 0 0, .int .i64 0, .slice (some ⟨g 22, 0, none⟩) n n, .slice (some ⟨g 28, 0, none⟩) 0 0, .slice none 0 0, .slice none 0 0, .slice (some ⟨g 34, 0, none⟩) n n, .slice (some ⟨g 40, 0, none⟩) 0 0, .slice none 0 0, .slice none 0 0, .slice (some ⟨bb, bo, none⟩) n bc, .slice (some ⟨g 51, 0, none⟩) n n, .slice none 0 0, .pointer none, .pointer none, .pointer none, .pointer none, .int .i64 0] : Array Value).getD i undef))) := hM
      clear hc hp hG hM
      unfold Oper.wp; generalize a.eval = ρ at *; go_simp; exact hK g w' (fun _ _ => rfl) hM'
    · intro l g a w' K hp hc hl hG hM hK
      have e55 : a.eval (.tmp 55) = .pointer (some ⟨fb, 0, none⟩) := hG.of 55 36 (by kernel_rfl) (preAt hc 55 _ hp (by kernel_rfl))
      have hM' : w0.Since w0.heap.size w' ∧ ((upd l 37 true) 45 = true → w0.heap.size ≤ g 45 ∧ w'.cell? ⟨g 45, 0, none⟩ = some (.int .i64 (-1))) ∧ ((upd l 37 true) 53 = true → w0.heap.size ≤ g 53 ∧ RowOk w' (g 53) (vals 79 23 (fun i => (#[.string al, .slice (some ⟨g 6, 0, none⟩) 0 0, .slice (some ⟨pb, 0, none⟩) n n, .pointer (some ⟨g 15, 0, none⟩), .slice aa 0 ac, .slice none 0 0, .int .i64 0, .slice (some ⟨g 22, 0, none⟩) n n, .slice (some ⟨g 28, 0, none⟩) 0 0, .slice none 0 0, .slice none 0 0, .slice (some ⟨g 34, 0, none⟩) n n, .slice (some ⟨g 40, 0, none⟩) 0 0, .slice none 0 0, .slice none 0 0, .slice (some ⟨bb, bo, none⟩) n bc, .slice (some ⟨g 51, 0, none⟩) n n, .slice none 0 0, .pointer none, .pointer none, .pointer none, .pointer none, .int .i64 0] : Array Value).getD i undef))) := hM
      clear hc hp hG hM
      unfold Oper.wp; generalize a.eval = ρ at *; go_simp; exact hK g w' (fun _ _ => rfl) hM'
    · intro l g a w' K hp hc hl hG hM hK
      have e56 : a.eval (.tmp 56) = .pointer (some ⟨fb, 9, none⟩) := hG.of 56 37 (by kernel_rfl) (preAt hc 55 _ hp (by kernel_rfl))
      have kk := old_cell hM.1 hk9
      have hM' : w0.Since w0.heap.size w' ∧ ((upd l 38 true) 45 = true → w0.heap.size ≤ g 45 ∧ w'.cell? ⟨g 45, 0, none⟩ = some (.int .i64 (-1))) ∧ ((upd l 38 true) 53 = true → w0.heap.size ≤ g 53 ∧ RowOk w' (g 53) (vals 79 23 (fun i => (#[.string al, .slice (some ⟨g 6, 0, none⟩) 0 0, .slice (some ⟨pb, 0, none⟩) n n, .pointer (some ⟨g 15, 0, none⟩), .slice aa 0 ac, .slice none 0 0, .int .i64 0, .slice (some ⟨g 22, 0, none⟩) n n, .slice (some ⟨g 28, 0, none⟩) 0 0, .slice none 0 0, .slice none 0 0, .slice (some ⟨g 34, 0, none⟩) n n, .slice (some ⟨g 40, 0, none⟩) 0 0, .slice none 0 0, .slice none 0 0, .slice (some ⟨bb, bo, none⟩) n bc, .slice (some ⟨g 51, 0, none⟩) n n, .slice none 0 0, .pointer none, .pointer none, .pointer none, .pointer none, .int .i64 0] : Array Value).getD i undef))) := hM
      clear hc hp hG hM
      unfold Oper.wp; generalize a.eval = ρ at *; go_simp; exact hK g w' (fun _ _ => rfl) hM'
    · intro l g a w' K hp hc hl hG hM hK
      have e57 : a.eval (.tmp 57) = .slice none 0 0 := hG.of 57 38 (by kernel_rfl) (preAt hc 55 _ hp (by kernel_rfl))
      have hM' : w0.Since w0.heap.size w' ∧ ((upd l 39 true) 45 = true → w0.heap.size ≤ g 45 ∧ w'.cell? ⟨g 45, 0, none⟩ = some (.int .i64 (-1))) ∧ ((upd l 39 true) 53 = true → w0.heap.size ≤ g 53 ∧ RowOk w' (g 53) (vals 79 23 (fun i => (#[.string al, .slice (some ⟨g 6, 0, none⟩) 0 0, .slice (some ⟨pb, 0, none⟩) n n, .pointer (some ⟨g 15, 0, none⟩), .slice aa 0 ac, .slice none 0 0, .int .i64 0, .slice (some ⟨g 22, 0, none⟩) n n, .slice (some ⟨g 28, 0, none⟩) 0 0, .slice none 0 0, .slice none 0 0, .slice (some ⟨g 34, 0, none⟩) n n, .slice (some ⟨g 40, 0, none⟩) 0 0, .slice none 0 0, .slice none 0 0, .slice (some ⟨bb, bo, none⟩) n bc, .slice (some ⟨g 51, 0, none⟩) n n, .slice none 0 0, .pointer none, .pointer none, .pointer none, .pointer none, .int .i64 0] : Array Value).getD i undef))) := hM
      clear hc hp hG hM
      unfold Oper.wp; generalize a.eval = ρ at *; go_simp; exact hK g w' (fun _ _ => rfl) hM'
    · intro l g a w' K hp hc hl hG hM hK
      have e58 : a.eval (.tmp 58) = .int .i64 0 := hG.of 58 39 (by kernel_rfl) (preAt hc 55 _ hp (by kernel_rfl))
      refine op_make mty46 (.tmp 58) (.tmp 58) rfl 0 0 e58 e58 (Nat.le_refl _) (by omega) ?_
      exact hK (upd g 40 w'.heap.size) _ (fun i hi => by
              match i, hi with
              | 0, _ => rfl
              | 1, _ => rfl
              | 2, _ => rfl
              | 3, _ => rfl
              | 4, _ => rfl
              | 5, _ => rfl
              | 6, _ => rfl
              | 7, _ => rfl
              | 8, _ => rfl
              | 9, _ => rfl
              | 10, _ => rfl
              | 11, _ => rfl
              | 12, _ => rfl
              | 13, _ => rfl
              | 14, _ => rfl
              | 15, _ => rfl
              | 16, _ => rfl
              | 17, _ => rfl
              | 18, _ => rfl
              | 19, _ => rfl
              | 20, _ => rfl
              | 21, _ => rfl
              | 22, _ => rfl
              | 23, _ => rfl
              | 24, _ => rfl
              | 25, _ => rfl
              | 26, _ => rfl
              | 27, _ => rfl
              | 28, _ => rfl
              | 29, _ => rfl
              | 30, _ => rfl
              | 31, _ => rfl
              | 32, _ => rfl
              | 33, _ => rfl
              | 34, _ => rfl
              | 35, _ => rfl
              | 36, _ => rfl
              | 37, _ => rfl
              | 38, _ => rfl
              | 39, _ => rfl
              | 40, hi => exact absurd hi (by rw [hl]; decide)
              | 41, _ => rfl
              | 42, _ => rfl
              | 43, _ => rfl
              | 44, _ => rfl
              | 45, _ => rfl
              | 46, _ => rfl
              | 47, _ => rfl
              | 48, _ => rfl
              | 49, _ => rfl
              | 50, _ => rfl
              | 51, _ => rfl
              | 52, hi => exact absurd hi (by rw [hc.not 52 55 hl (by kernel_rfl)]; decide)
              | 53, _ => rfl
              | 54, _ => rfl
              | _ + 55, _ => rfl) ⟨hM.1.alloc hM.1.size _, fun h' => by
        have h4 : l 45 = true := by rwa [upd_other _ _ (by omega)] at h'
        obtain ⟨q1, q2⟩ := hM.2.1 h4
        rw [upd_other _ _ (by omega)]
        exact ⟨q1, old_cell (alloc_since _ _) q2⟩, fun h' => absurd h' (by rw [upd_other _ _ (by omega), hc.not 53 55 hl (by kernel_rfl)]; decide)⟩
    · intro l g a w' K hp hc hl hG hM hK
      have e0 : a.eval (.tmp 0) = .pointer (some ⟨fb, 0, none⟩) := (hG.oldF hF 0 (by kernel_rfl) (by omega)).trans h0
      have hM' : w0.Since w0.heap.size w' ∧ ((upd l 41 true) 45 = true → w0.heap.size ≤ g 45 ∧ w'.cell? ⟨g 45, 0, none⟩ = some (.int .i64 (-1))) ∧ ((upd l 41 true) 53 = true → w0.heap.size ≤ g 53 ∧ RowOk w' (g 53) (vals 79 23 (fun i => (#[.string al, .slice (some ⟨g 6, 0, none⟩) 0 0, .slice (some ⟨pb, 0, none⟩) n n, .pointer (some ⟨g 15, 0, none⟩), .slice aa 0 ac, .slice none 0 0, .int .i64 0, .slice (some ⟨g 22, 0, none⟩) n n, .slice (some ⟨g 28, 0, none⟩) 0 0, .slice none 0 0, .slice none 0 0, .slice (some ⟨g 34, 0, none⟩) n n, .slice (some ⟨g 40, 0, none⟩) 0 0, .slice none 0 0, .slice none 0 0, .slice (some ⟨bb, bo, none⟩) n bc, .slice (some ⟨g 51, 0, none⟩) n n, .slice none 0 0, .pointer none, .pointer none, .pointer none, .pointer none, .int .i64 0] : Array Value).getD i undef))) := hM
      clear hc hp hG hM
      unfold Oper.wp; generalize a.eval = ρ at *; go_simp; exact hK g w' (fun _ _ => rfl) hM'
    · intro l g a w' K hp hc hl hG hM hK
      have e60 : a.eval (.tmp 60) = .pointer (some ⟨fb, 0, none⟩) := hG.of 60 41 (by kernel_rfl) (preAt hc 55 _ hp (by kernel_rfl))
      have hM' : w0.Since w0.heap.size w' ∧ ((upd l 42 true) 45 = true → w0.heap.size ≤ g 45 ∧ w'.cell? ⟨g 45, 0, none⟩ = some (.int .i64 (-1))) ∧ ((upd l 42 true) 53 = true → w0.heap.size ≤ g 53 ∧ RowOk w' (g 53) (vals 79 23 (fun i => (#[.string al, .slice (some ⟨g 6, 0, none⟩) 0 0, .slice (some ⟨pb, 0, none⟩) n n, .pointer (some ⟨g 15, 0, none⟩), .slice aa 0 ac, .slice none 0 0, .int .i64 0, .slice (some ⟨g 22, 0, none⟩) n n, .slice (some ⟨g 28, 0, none⟩) 0 0, .slice none 0 0, .slice none 0 0, .slice (some ⟨g 34, 0, none⟩) n n, .slice (some ⟨g 40, 0, none⟩) 0 0, .slice none 0 0, .slice none 0 0, .slice (some ⟨bb, bo, none⟩) n bc, .slice (some ⟨g 51, 0, none⟩) n n, .slice none 0 0, .pointer none, .pointer none, .pointer none, .pointer none, .int .i64 0] : Array Value).getD i undef))) := hM
      clear hc hp hG hM
      unfold Oper.wp; generalize a.eval = ρ at *; go_simp; exact hK g w' (fun _ _ => rfl) hM'
    · intro l g a w' K hp hc hl hG hM hK
      have e61 : a.eval (.tmp 61) = .pointer (some ⟨fb, 0, none⟩) := hG.of 61 42 (by kernel_rfl) (preAt hc 55 _ hp (by kernel_rfl))
      have hM' : w0.Since w0.heap.size w' ∧ ((upd l 43 true) 45 = true → w0.heap.size ≤ g 45 ∧ w'.cell? ⟨g 45, 0, none⟩ = some (.int .i64 (-1))) ∧ ((upd l 43 true) 53 = true → w0.heap.size ≤ g 53 ∧ RowOk w' (g 53) (vals 79 23 (fun i => (#[.string al, .slice (some ⟨g 6, 0, none⟩) 0 0, .slice (some ⟨pb, 0, none⟩) n n, .pointer (some ⟨g 15, 0, none⟩), .slice aa 0 ac, .slice none 0 0, .int .i64 0, .slice (some ⟨g 22, 0, none⟩) n n, .slice (some ⟨g 28, 0, none⟩) 0 0, .slice none 0 0, .slice none 0 0, .slice (some ⟨g 34, 0, none⟩) n n, .slice (some ⟨g 40, 0, none⟩) 0 0, .slice none 0 0, .slice none 0 0, .slice (some ⟨bb, bo, none⟩) n bc, .slice (some ⟨g 51, 0, none⟩) n n, .slice none 0 0, .pointer none, .pointer none, .pointer none, .pointer none, .int .i64 0] : Array Value).getD i undef))) := hM
      clear hc hp hG hM
      unfold Oper.wp; generalize a.eval = ρ at *; go_simp; exact hK g w' (fun _ _ => rfl) hM'
    · intro l g a w' K hp hc hl hG hM hK
      have e62 : a.eval (.tmp 62) = .pointer (some ⟨fb, 11, none⟩) := hG.of 62 43 (by kernel_rfl) (preAt hc 55 _ hp (by kernel_rfl))
      have kk := old_cell hM.1 hk11
      have hM' : w0.Since w0.heap.size w' ∧ ((upd l 44 true) 45 = true → w0.heap.size ≤ g 45 ∧ w'.cell? ⟨g 45, 0, none⟩ = some (.int .i64 (-1))) ∧ ((upd l 44 true) 53 = true → w0.heap.size ≤ g 53 ∧ RowOk w' (g 53) (vals 79 23 (fun i => (#[.string al, .slice (some ⟨g 6, 0, none⟩) 0 0, .slice (some ⟨pb, 0, none⟩) n n, .pointer (some ⟨g 15, 0, none⟩), .slice aa 0 ac, .slice none 0 0, .int .i64 0, .slice (some ⟨g 22, 0, none⟩) n n, .slice (some ⟨g 28, 0, none⟩) 0 0, .slice none 0 0, .slice none 0 0, .slice (some ⟨g 34, 0, none⟩) n n, .slice (some ⟨g 40, 0, none⟩) 0 0, .slice none 0 0, .slice none 0 0, .slice (some ⟨bb, bo, none⟩) n bc, .slice (some ⟨g 51, 0, none⟩) n n, .slice none 0 0, .pointer none, .pointer none, .pointer none, .pointer none, .int .i64 0] : Array Value).getD i undef))) := hM
      clear hc hp hG hM
      unfold Oper.wp; generalize a.eval = ρ at *; go_simp; exact hK g w' (fun _ _ => rfl) hM'
    · intro l g a w' K hp hc hl hG hM hK
      have ec : ∀ v, a.eval (.const v) = v := fun _ => rfl
      have fin := hK (upd g 45 w'.heap.size) (w'.alloc (.cells #[.int .i64 (-1)] 3)) (fun i hi => by
              match i, hi with
              | 0, _ => rfl
              | 1, _ => rfl
              | 2, _ => rfl
              | 3, _ => rfl
              | 4, _ => rfl
              | 5, _ => rfl
              | 6, _ => rfl
              | 7, _ => rfl
              | 8, _ => rfl
              | 9, _ => rfl
              | 10, _ => rfl
              | 11, _ => rfl
              | 12, _ => rfl
              | 13, _ => rfl
              | 14, _ => rfl
              | 15, _ => rfl
              | 16, _ => rfl
              | 17, _ => rfl
              | 18, _ => rfl
              | 19, _ => rfl
              | 20, _ => rfl
              | 21, _ => rfl
              | 22, _ => rfl
              | 23, _ => rfl
              | 24, _ => rfl
              | 25, _ => rfl
              | 26, _ => rfl
              | 27, _ => rfl
              | 28, _ => rfl
              | 29, _ => rfl
              | 30, _ => rfl
              | 31, _ => rfl
              | 32, _ => rfl
              | 33, _ => rfl
              | 34, _ => rfl
              | 35, _ => rfl
              | 36, _ => rfl
              | 37, _ => rfl
              | 38, _ => rfl
              | 39, _ => rfl
              | 40, _ => rfl
              | 41, _ => rfl
              | 42, _ => rfl
              | 43, _ => rfl
              | 44, _ => rfl
              | 45, hi => exact absurd hi (by rw [hl]; decide)
              | 46, _ => rfl
              | 47, _ => rfl
              | 48, _ => rfl
              | 49, _ => rfl
              | 50, _ => rfl
              | 51, _ => rfl
              | 52, _ => rfl
              | 53, _ => rfl
              | 54, _ => rfl
              | _ + 55, _ => rfl) ⟨hM.1.alloc hM.1.size _, fun _ => ⟨by rw [upd_same]; exact hM.1.size, by rw [upd_same]; exact news1 w' (.int .i64 (-1)) 3 0 _ rfl⟩, fun h' => absurd h' (by rw [upd_other _ _ (by omega), hc.not 53 55 hl (by kernel_rfl)]; decide)⟩
      clear hK hc hp hG hM
      unfold Oper.wp; generalize a.eval = ρ at *; go_simp; exact fin
    · intro l g a w' K hp hc hl hG hM hK
      have e0 : a.eval (.tmp 0) = .pointer (some ⟨fb, 0, none⟩) := (hG.oldF hF 0 (by kernel_rfl) (by omega)).trans h0
      have hM' : w0.Since w0.heap.size w' ∧ ((upd l 46 true) 45 = true → w0.heap.size ≤ g 45 ∧ w'.cell? ⟨g 45, 0, none⟩ = some (.int .i64 (-1))) ∧ ((upd l 46 true) 53 = true → w0.heap.size ≤ g 53 ∧ RowOk w' (g 53) (vals 79 23 (fun i => (#[.string al, .slice (some ⟨g 6, 0, none⟩) 0 0, .slice (some ⟨pb, 0, none⟩) n n, .pointer (some ⟨g 15, 0, none⟩), .slice aa 0 ac, .slice none 0 0, .int .i64 0, .slice (some ⟨g 22, 0, none⟩) n n, .slice (some ⟨g 28, 0, none⟩) 0 0, .slice none 0 0, .slice none 0 0, .slice (some ⟨g 34, 0, none⟩) n n, .slice (some ⟨g 40, 0, none⟩) 0 0, .slice none 0 0, .slice none 0 0, .slice (some ⟨bb, bo, none⟩) n bc, .slice (some ⟨g 51, 0, none⟩) n n, .slice none 0 0, .pointer none, .pointer none, .pointer none, .pointer none, .int .i64 0] : Array Value).getD i undef))) := hM
      clear hc hp hG hM
      unfold Oper.wp; generalize a.eval = ρ at *; go_simp; exact hK g w' (fun _ _ => rfl) hM'
    · intro l g a w' K hp hc hl hG hM hK
      have e65 : a.eval (.tmp 65) = .pointer (some ⟨fb, 0, none⟩) := hG.of 65 46 (by kernel_rfl) (preAt hc 55 _ hp (by kernel_rfl))
      have hM' : w0.Since w0.heap.size w' ∧ ((upd l 47 true) 45 = true → w0.heap.size ≤ g 45 ∧ w'.cell? ⟨g 45, 0, none⟩ = some (.int .i64 (-1))) ∧ ((upd l 47 true) 53 = true → w0.heap.size ≤ g 53 ∧ RowOk w' (g 53) (vals 79 23 (fun i => (#[.string al, .slice (some ⟨g 6, 0, none⟩) 0 0, .slice (some ⟨pb, 0, none⟩) n n, .pointer (some ⟨g 15, 0, none⟩), .slice aa 0 ac, .slice none 0 0, .int .i64 0, .slice (some ⟨g 22, 0, none⟩) n n, .slice (some ⟨g 28, 0, none⟩) 0 0, .slice none 0 0, .slice none 0 0, .slice (some ⟨g 34, 0, none⟩) n n, .slice (some ⟨g 40, 0, none⟩) 0 0, .slice none 0 0, .slice none 0 0, .slice (some ⟨bb, bo, none⟩) n bc, .slice (some ⟨g 51, 0, none⟩) n n, .slice none 0 0, .pointer none, .pointer none, .pointer none, .pointer none, .int .i64 0] : Array Value).getD i undef))) := hM
      clear hc hp hG hM
      unfold Oper.wp; generalize a.eval = ρ at *; go_simp; exact hK g w' (fun _ _ => rfl) hM'
    · intro l g a w' K hp hc hl hG hM hK
      have e66 : a.eval (.tmp 66) = .pointer (some ⟨fb, 0, none⟩) := hG.of 66 47 (by kernel_rfl) (preAt hc 55 _ hp (by kernel_rfl))
      have hM' : w0.Since w0.heap.size w' ∧ ((upd l 48 true) 45 = true → w0.heap.size ≤ g 45 ∧ w'.cell? ⟨g 45, 0, none⟩ = some (.int .i64 (-1))) ∧ ((upd l 48 true) 53 = true → w0.heap.size ≤ g 53 ∧ RowOk w' (g 53) (vals 79 23 (fun i => (#[.string al, .slice (some ⟨g 6, 0, none⟩) 0 0, .slice (some ⟨pb, 0, none⟩) n n, .pointer (some ⟨g 15, 0, none⟩), .slice aa 0 ac, .slice none 0 0, .int .i64 0, .slice (some ⟨g 22, 0, none⟩) n n, .slice (some ⟨g 28, 0, none⟩) 0 0, .slice none 0 0, .slice none 0 0, .slice (some ⟨g 34, 0, none⟩) n n, .slice (some ⟨g 40, 0, none⟩) 0 0, .slice none 0 0, .slice none 0 0, .slice (some ⟨bb, bo, none⟩) n bc, .slice (some ⟨g 51, 0, none⟩) n n, .slice none 0 0, .pointer none, .pointer none, .pointer none, .pointer none, .int .i64 0] : Array Value).getD i undef))) := hM
      clear hc hp hG hM
      unfold Oper.wp; generalize a.eval = ρ at *; go_simp; exact hK g w' (fun _ _ => rfl) hM'
    · intro l g a w' K hp hc hl hG hM hK
      have e67 : a.eval (.tmp 67) = .pointer (some ⟨fb, 11, none⟩) := hG.of 67 48 (by kernel_rfl) (preAt hc 55 _ hp (by kernel_rfl))
      have kk := old_cell hM.1 hk11
      have hM' : w0.Since w0.heap.size w' ∧ ((upd l 49 true) 45 = true → w0.heap.size ≤ g 45 ∧ w'.cell? ⟨g 45, 0, none⟩ = some (.int .i64 (-1))) ∧ ((upd l 49 true) 53 = true → w0.heap.size ≤ g 53 ∧ RowOk w' (g 53) (vals 79 23 (fun i => (#[.string al, .slice (some ⟨g 6, 0, none⟩) 0 0, .slice (some ⟨pb, 0, none⟩) n n, .pointer (some ⟨g 15, 0, none⟩), .slice aa 0 ac, .slice none 0 0, .int .i64 0, .slice (some ⟨g 22, 0, none⟩) n n, .slice (some ⟨g 28, 0, none⟩) 0 0, .slice none 0 0, .slice none 0 0, .slice (some ⟨g 34, 0, none⟩) n n, .slice (some ⟨g 40, 0, none⟩) 0 0, .slice none 0 0, .slice none 0 0, .slice (some ⟨bb, bo, none⟩) n bc, .slice (some ⟨g 51, 0, none⟩) n n, .slice none 0 0, .pointer none, .pointer none, .pointer none, .pointer none, .int .i64 0] : Array Value).getD i undef))) := hM
      clear hc hp hG hM
      unfold Oper.wp; generalize a.eval = ρ at *; go_simp; exact hK g w' (fun _ _ => rfl) hM'
    · intro l g a w' K hp hc hl hG hM hK
      have e68 : a.eval (.tmp 68) = .slice (some ⟨bb, bo, none⟩) n bc := hG.of 68 49 (by kernel_rfl) (preAt hc 55 _ hp (by kernel_rfl))
      have hM' : w0.Since w0.heap.size w' ∧ ((upd l 50 true) 45 = true → w0.heap.size ≤ g 45 ∧ w'.cell? ⟨g 45, 0, none⟩ = some (.int .i64 (-1))) ∧ ((upd l 50 true) 53 = true → w0.heap.size ≤ g 53 ∧ RowOk w' (g 53) (vals 79 23 (fun i => (#[.string al, .slice (some ⟨g 6, 0, none⟩) 0 0, .slice (some ⟨pb, 0, none⟩) n n, .pointer (some ⟨g 15, 0, none⟩), .slice aa 0 ac, .slice none 0 0, .int .i64 0, .slice (some ⟨g 22, 0, none⟩) n n, .slice (some ⟨g 28, 0, none⟩) 0 0, .slice none 0 0, .slice none 0 0, .slice (some ⟨g 34, 0, none⟩) n n, .slice (some ⟨g 40, 0, none⟩) 0 0, .slice none 0 0, .slice none 0 0, .slice (some ⟨bb, bo, none⟩) n bc, .slice (some ⟨g 51, 0, none⟩) n n, .slice none 0 0, .pointer none, .pointer none, .pointer none, .pointer none, .int .i64 0] : Array Value).getD i undef))) := hM
      clear hc hp hG hM
      unfold Oper.wp; generalize a.eval = ρ at *; go_simp; exact hK g w' (fun _ _ => rfl) hM'
    · intro l g a w' K hp hc hl hG hM hK
      have e64 : a.eval (.tmp 64) = .slice (some ⟨g 45, 0, none⟩) 1 1 := hG.of 64 45 (by kernel_rfl) (preAt hc 55 _ hp (by kernel_rfl))
      have e69 : a.eval (.tmp 69) = .int .i64 (n : Nat) := hG.of 69 50 (by kernel_rfl) (preAt hc 55 _ hp (by kernel_rfl))
      have ef : ∀ x, a.eval (.func x) = .func (.func x) #[] #[] := fun _ => rfl
      have h4 : l 45 = true := preAt hc 55 _ hp (by kernel_rfl)
      obtain ⟨q1, q2⟩ := hM.2.1 h4
      have HC := repeat20 (w := w') (b := g 45) (c := 1) (-1) n (by omega) q2
      have FIN : Hid (∀ w'', w'.Since w'.heap.size w'' → K (a.put (some 70) (.slice (some ⟨w'.heap.size, 0, none⟩) n n)) w'') := fun w'' h => hK (upd g 51 w'.heap.size) w'' (fun i hi => by
              match i, hi with
              | 0, _ => rfl
              | 1, _ => rfl
              | 2, _ => rfl
              | 3, _ => rfl
              | 4, _ => rfl
              | 5, _ => rfl
              | 6, _ => rfl
              | 7, _ => rfl
              | 8, _ => rfl
              | 9, _ => rfl
              | 10, _ => rfl
              | 11, _ => rfl
              | 12, _ => rfl
              | 13, _ => rfl
              | 14, _ => rfl
              | 15, _ => rfl
              | 16, _ => rfl
              | 17, _ => rfl
              | 18, _ => rfl
              | 19, _ => rfl
              | 20, _ => rfl
              | 21, _ => rfl
              | 22, _ => rfl
              | 23, _ => rfl
              | 24, _ => rfl
              | 25, _ => rfl
              | 26, _ => rfl
              | 27, _ => rfl
              | 28, _ => rfl
              | 29, _ => rfl
              | 30, _ => rfl
              | 31, _ => rfl
              | 32, _ => rfl
              | 33, _ => rfl
              | 34, _ => rfl
              | 35, _ => rfl
              | 36, _ => rfl
              | 37, _ => rfl
              | 38, _ => rfl
              | 39, _ => rfl
              | 40, _ => rfl
              | 41, _ => rfl
              | 42, _ => rfl
              | 43, _ => rfl
              | 44, _ => rfl
              | 45, _ => rfl
              | 46, _ => rfl
              | 47, _ => rfl
              | 48, _ => rfl
              | 49, _ => rfl
              | 50, _ => rfl
              | 51, hi => exact absurd hi (by rw [hl]; decide)
              | 52, hi => exact absurd hi (by rw [hc.not 52 55 hl (by kernel_rfl)]; decide)
              | 53, _ => rfl
              | 54, _ => rfl
              | _ + 55, _ => rfl) ⟨hM.1.trans ⟨h.os, h.tape, h.output, h.size, fun i hi => h.block i (Nat.lt_of_lt_of_le hi hM.1.size)⟩, fun _ => ⟨by rw [upd_other _ _ (by omega)]; exact q1, by rw [upd_other _ _ (by omega)]; exact old_cell h q2⟩, fun h' => absurd h' (by rw [upd_other _ _ (by omega), hc.not 53 55 hl (by kernel_rfl)]; decide)⟩
      clear hK hc hp hG hM q2
      unfold Oper.wp; generalize hρ : a.eval = ρ at *; go_simp
      refine Calls.mono HC ?_
      rintro e w'' ⟨rfl, h, _⟩
      exact FIN.out w'' h
    · intro l g a w' K hp hc hl hG hM hK
      have e19 : a.eval (.tmp 19) = .string al := hG.of 19 0 (by kernel_rfl) (preAt hc 55 _ hp (by kernel_rfl))
      have e25 : a.eval (.tmp 25) = .slice (some ⟨g 6, 0, none⟩) 0 0 := hG.of 25 6 (by kernel_rfl) (preAt hc 55 _ hp (by kernel_rfl))
      have e26 : a.eval (.tmp 26) = .slice (some ⟨pb, 0, none⟩) n n := hG.of 26 7 (by kernel_rfl) (preAt hc 55 _ hp (by kernel_rfl))
      have e34 : a.eval (.tmp 34) = .pointer (some ⟨g 15, 0, none⟩) := hG.of 34 15 (by kernel_rfl) (preAt hc 55 _ hp (by kernel_rfl))
      have e35 : a.eval (.tmp 35) = .slice aa 0 ac := hG.of 35 16 (by kernel_rfl) (preAt hc 55 _ hp (by kernel_rfl))
      have e41 : a.eval (.tmp 41) = .slice (some ⟨g 22, 0, none⟩) n n := hG.of 41 22 (by kernel_rfl) (preAt hc 55 _ hp (by kernel_rfl))
      have e47 : a.eval (.tmp 47) = .slice (some ⟨g 28, 0, none⟩) 0 0 := hG.of 47 28 (by kernel_rfl) (preAt hc 55 _ hp (by kernel_rfl))
      have e53 : a.eval (.tmp 53) = .slice (some ⟨g 34, 0, none⟩) n n := hG.of 53 34 (by kernel_rfl) (preAt hc 55 _ hp (by kernel_rfl))
      have e59 : a.eval (.tmp 59) = .slice (some ⟨g 40, 0, none⟩) 0 0 := hG.of 59 40 (by kernel_rfl) (preAt hc 55 _ hp (by kernel_rfl))
      have e63 : a.eval (.tmp 63) = .slice (some ⟨bb, bo, none⟩) n bc := hG.of 63 44 (by kernel_rfl) (preAt hc 55 _ hp (by kernel_rfl))
      have e70 : a.eval (.tmp 70) = .slice (some ⟨g 51, 0, none⟩) n n := hG.of 70 51 (by kernel_rfl) (preAt hc 55 _ hp (by kernel_rfl))
      have hM' : w0.Since w0.heap.size w' ∧ ((upd l 52 true) 45 = true → w0.heap.size ≤ g 45 ∧ w'.cell? ⟨g 45, 0, none⟩ = some (.int .i64 (-1))) ∧ ((upd l 52 true) 53 = true → w0.heap.size ≤ g 53 ∧ RowOk w' (g 53) (vals 79 23 (fun i => (#[.string al, .slice (some ⟨g 6, 0, none⟩) 0 0, .slice (some ⟨pb, 0, none⟩) n n, .pointer (some ⟨g 15, 0, none⟩), .slice aa 0 ac, .slice none 0 0, .int .i64 0, .slice (some ⟨g 22, 0, none⟩) n n, .slice (some ⟨g 28, 0, none⟩) 0 0, .slice none 0 0, .slice none 0 0, .slice (some ⟨g 34, 0, none⟩) n n, .slice (some ⟨g 40, 0, none⟩) 0 0, .slice none 0 0, .slice none 0 0, .slice (some ⟨bb, bo, none⟩) n bc, .slice (some ⟨g 51, 0, none⟩) n n, .slice none 0 0, .pointer none, .pointer none, .pointer none, .pointer none, .int .i64 0] : Array Value).getD i undef))) := hM
      clear hc hp hG hM
      unfold Oper.wp; generalize a.eval = ρ at *; go_simp; exact hK g w' (fun _ _ => rfl) hM'
    · intro l g a w' K hp hc hl hG hM hK
      have e71 : a.eval (.tmp 71) = .agg #[.string al, .slice (some ⟨g 6, 0, none⟩) 0 0, .slice (some ⟨pb, 0, none⟩) n n, .pointer (some ⟨g 15, 0, none⟩), .slice aa 0 ac, .slice none 0 0, .int .i64 0, .slice (some ⟨g 22, 0, none⟩) n n, .slice (some ⟨g 28, 0, none⟩) 0 0, .slice none 0 0, .slice none 0 0, .slice (some ⟨g 34, 0, none⟩) n n, .slice (some ⟨g 40, 0, none⟩) 0 0, .slice none 0 0, .slice none 0 0, .slice (some ⟨bb, bo, none⟩) n bc, .slice (some ⟨g 51, 0, none⟩) n n, .slice none 0 0, .pointer none, .pointer none, .pointer none, .pointer none, .int .i64 0] := hG.of 71 52 (by kernel_rfl) (preAt hc 55 _ hp (by kernel_rfl))
      have hrow : RowOk (w'.alloc (.cells #[.string al, .slice (some ⟨g 6, 0, none⟩) 0 0, .slice (some ⟨pb, 0, none⟩) n n, .pointer (some ⟨g 15, 0, none⟩), .slice aa 0 ac, .slice none 0 0, .int .i64 0, .slice (some ⟨g 22, 0, none⟩) n n, .slice (some ⟨g 28, 0, none⟩) 0 0, .slice none 0 0, .slice none 0 0, .slice (some ⟨g 34, 0, none⟩) n n, .slice (some ⟨g 40, 0, none⟩) 0 0, .slice none 0 0, .slice none 0 0, .slice (some ⟨bb, bo, none⟩) n bc, .slice (some ⟨g 51, 0, none⟩) n n, .slice none 0 0, .pointer none, .pointer none, .pointer none, .pointer none, .int .i64 0] 79)) w'.heap.size (vals 79 23 (fun i => (#[.string al, .slice (some ⟨g 6, 0, none⟩) 0 0, .slice (some ⟨pb, 0, none⟩) n n, .pointer (some ⟨g 15, 0, none⟩), .slice aa 0 ac, .slice none 0 0, .int .i64 0, .slice (some ⟨g 22, 0, none⟩) n n, .slice (some ⟨g 28, 0, none⟩) 0 0, .slice none 0 0, .slice none 0 0, .slice (some ⟨g 34, 0, none⟩) n n, .slice (some ⟨g 40, 0, none⟩) 0 0, .slice none 0 0, .slice none 0 0, .slice (some ⟨bb, bo, none⟩) n bc, .slice (some ⟨g 51, 0, none⟩) n n, .slice none 0 0, .pointer none, .pointer none, .pointer none, .pointer none, .int .i64 0] : Array Value).getD i undef)) := ⟨_, Go.Deep.blk_alloc_new _ _, rfl, fun i v hv => by show v = (#[.string al, .slice (some ⟨g 6, 0, none⟩) 0 0, .slice (some ⟨pb, 0, none⟩) n n, .pointer (some ⟨g 15, 0, none⟩), .slice aa 0 ac, .slice none 0 0, .int .i64 0, .slice (some ⟨g 22, 0, none⟩) n n, .slice (some ⟨g 28, 0, none⟩) 0 0, .slice none 0 0, .slice none 0 0, .slice (some ⟨g 34, 0, none⟩) n n, .slice (some ⟨g 40, 0, none⟩) 0 0, .slice none 0 0, .slice none 0 0, .slice (some ⟨bb, bo, none⟩) n bc, .slice (some ⟨g 51, 0, none⟩) n n, .slice none 0 0, .pointer none, .pointer none, .pointer none, .pointer none, .int .i64 0] : Array Value).getD i undef; rw [Array.getD_eq_getD_getElem?, hv]; rfl⟩
      have fin := hK (upd g 53 w'.heap.size) (w'.alloc (.cells #[.string al, .slice (some ⟨g 6, 0, none⟩) 0 0, .slice (some ⟨pb, 0, none⟩) n n, .pointer (some ⟨g 15, 0, none⟩), .slice aa 0 ac, .slice none 0 0, .int .i64 0, .slice (some ⟨g 22, 0, none⟩) n n, .slice (some ⟨g 28, 0, none⟩) 0 0, .slice none 0 0, .slice none 0 0, .slice (some ⟨g 34, 0, none⟩) n n, .slice (some ⟨g 40, 0, none⟩) 0 0, .slice none 0 0, .slice none 0 0, .slice (some ⟨bb, bo, none⟩) n bc, .slice (some ⟨g 51, 0, none⟩) n n, .slice none 0 0, .pointer none, .pointer none, .pointer none, .pointer none, .int .i64 0] 79)) (fun i hi => by
              match i, hi with
              | 0, _ => rfl
              | 1, _ => rfl
              | 2, _ => rfl
              | 3, _ => rfl
              | 4, _ => rfl
              | 5, _ => rfl
              | 6, _ => rfl
              | 7, _ => rfl
              | 8, _ => rfl
              | 9, _ => rfl
              | 10, _ => rfl
              | 11, _ => rfl
              | 12, _ => rfl
              | 13, _ => rfl
              | 14, _ => rfl
              | 15, _ => rfl
              | 16, _ => rfl
              | 17, _ => rfl
              | 18, _ => rfl
              | 19, _ => rfl
              | 20, _ => rfl
              | 21, _ => rfl
              | 22, _ => rfl
              | 23, _ => rfl
              | 24, _ => rfl
              | 25, _ => rfl
              | 26, _ => rfl
              | 27, _ => rfl
              | 28, _ => rfl
              | 29, _ => rfl
              | 30, _ => rfl
              | 31, _ => rfl
              | 32, _ => rfl
              | 33, _ => rfl
              | 34, _ => rfl
              | 35, _ => rfl
              | 36, _ => rfl
              | 37, _ => rfl
              | 38, _ => rfl
              | 39, _ => rfl
              | 40, _ => rfl
              | 41, _ => rfl
              | 42, _ => rfl
              | 43, _ => rfl
              | 44, _ => rfl
              | 45, _ => rfl
              | 46, _ => rfl
              | 47, _ => rfl
              | 48, _ => rfl
              | 49, _ => rfl
              | 50, _ => rfl
              | 51, _ => rfl
              | 52, _ => rfl
              | 53, hi => exact absurd hi (by rw [hl]; decide)
              | 54, hi => exact absurd hi (by rw [hc.not 54 55 hl (by kernel_rfl)]; decide)
              | _ + 55, _ => rfl) ⟨hM.1.alloc hM.1.size _, fun h' => by
        have h4 : l 45 = true := by rwa [upd_other _ _ (by omega)] at h'
        obtain ⟨q1, q2⟩ := hM.2.1 h4
        rw [upd_other _ _ (by omega)]
        exact ⟨q1, old_cell (alloc_since _ _) q2⟩, fun _ => ⟨by rw [upd_same]; exact hM.1.size, by rw [upd_same]; exact hrow⟩⟩
      clear hK hc hp hG hM hrow
      unfold Oper.wp; generalize a.eval = ρ at *; go_simp; exact fin
    · intro l g a w' K hp hc hl hG hM hK
      have e72 : a.eval (.tmp 72) = .pointer (some ⟨g 53, 0, none⟩) := hG.of 72 53 (by kernel_rfl) (preAt hc 55 _ hp (by kernel_rfl))
      have hM' : w0.Since w0.heap.size w' ∧ ((upd l 54 true) 45 = true → w0.heap.size ≤ g 45 ∧ w'.cell? ⟨g 45, 0, none⟩ = some (.int .i64 (-1))) ∧ ((upd l 54 true) 53 = true → w0.heap.size ≤ g 53 ∧ RowOk w' (g 53) (vals 79 23 (fun i => (#[.string al, .slice (some ⟨g 6, 0, none⟩) 0 0, .slice (some ⟨pb, 0, none⟩) n n, .pointer (some ⟨g 15, 0, none⟩), .slice aa 0 ac, .slice none 0 0, .int .i64 0, .slice (some ⟨g 22, 0, none⟩) n n, .slice (some ⟨g 28, 0, none⟩) 0 0, .slice none 0 0, .slice none 0 0, .slice (some ⟨g 34, 0, none⟩) n n, .slice (some ⟨g 40, 0, none⟩) 0 0, .slice none 0 0, .slice none 0 0, .slice (some ⟨bb, bo, none⟩) n bc, .slice (some ⟨g 51, 0, none⟩) n n, .slice none 0 0, .pointer none, .pointer none, .pointer none, .pointer none, .int .i64 0] : Array Value).getD i undef))) := hM
      clear hc hp hG hM
      unfold Oper.wp; generalize a.eval = ρ at *; go_simp; exact hK g w' (fun _ _ => rfl) hM'
  · intro l g x w' hl hv ho hM
    obtain ⟨hs', _, h53⟩ := hM
    obtain ⟨q1, q2⟩ := h53 (hl 53 (show 53 < 55 by omega))
    exact HQ.out x w' (g 53) _ (fun s hs hw => ho s hs hw) hs' q1 q2 rfl rfl (hv 8 54 (by omega) (by kernel_rfl))
end Go.Proofs.YbulkexmzaGreat
