/-
  newDominance (38): regions 93 and 94.
-/
import Derived.Test.YbulkexmzaGreatMk
import Derived.Test.YbulkexmzaGreatTs
namespace Go.Proofs.YbulkexmzaGreat
open Go.RowKit
set_option maxHeartbeats 4000000 in
set_option maxRecDepth 100000 in
theorem r93 {F : (Nat → Value) → Act} (hF : Fr 577 F) {w0 w : World} {E : Nat → Nat} {B : Nat → Lb} {D : Nat → Value} {f : Nat → Value} {Q : Exit → Act → World → Prop} {n : Nat} (hn : n ≤ 100000) (h7 : f 7 = .int .i64 (n : Nat))
    (hS : St w0 w 3 E B) (hb0' : B 0 = vals 130 21 D) (h9 : f 9 = .pointer (some ⟨E 0, 0, none⟩))
    (hQ : ∀ x w' g5 g8 g11 D', (∀ s, s < 577 → wrF (opsL (Ybaz.f38.body.bind (regAt 93))) 0 s = none → x s = f s) → St w0 w' 6 (upd (upd (upd E 3 g5) 4 g8) 5 g11) (upd (upd (upd (upd B 0 (vals 130 21 D')) 3 (zrow 3 (n + 1) (.int .i64 0))) 4 (zrow 3 (n + 1) (.int .i64 0))) 5 (zrow 3 (n + 1) (.int .i64 0))) → D' 3 = .slice (some ⟨g5, 0, none⟩) (n + 1) (n + 1) → D' 4 = .slice (some ⟨g8, 0, none⟩) (n + 1) (n + 1) → D' 2 = .slice (some ⟨g11, 0, none⟩) (n + 1) (n + 1) → (∀ i, i ≠ 2 → i ≠ 3 → i ≠ 4 → D' i = D i) → Q .normal (F x) w') :
    ((Ybaz.f38.body.bind (regAt 93)).getD .skip).wp Ybaz.prog Q (F f) w := by
  conv => arg 2; whnf
  have hw : IntKind.i64.wrap ((n : Int) + 1) = (n : Int) + 1 := by rw [IntKind.wrap_i64]; omega
  have hlt : ∀ k, k < 3 → E k < w.drew.heap.size := fun k hk => (hS.row k hk).lt
  have hsz : w0.heap.size ≤ w.drew.heap.size := hS.since.size
  have HQ : Hid (∀ x w' g5 g8 g11 D', (∀ s, s < 577 → wrF (opsL (Ybaz.f38.body.bind (regAt 93))) 0 s = none → x s = f s) → St w0 w' 6 (upd (upd (upd E 3 g5) 4 g8) 5 g11) (upd (upd (upd (upd B 0 (vals 130 21 D')) 3 (zrow 3 (n + 1) (.int .i64 0))) 4 (zrow 3 (n + 1) (.int .i64 0))) 5 (zrow 3 (n + 1) (.int .i64 0))) → D' 3 = .slice (some ⟨g5, 0, none⟩) (n + 1) (n + 1) → D' 4 = .slice (some ⟨g8, 0, none⟩) (n + 1) (n + 1) → D' 2 = .slice (some ⟨g11, 0, none⟩) (n + 1) (n + 1) → (∀ i, i ≠ 2 → i ≠ 3 → i ≠ 4 → D' i = D i) → Q .normal (F x) w') := hQ
  have H0 : Hid (St w0 w.drew 3 E (upd B 0 (vals 130 21 D))) := hS.drew.congr (fun _ _ => rfl) (fun k _ => by by_cases e : k = 0; (subst e; rw [upd_same, hb0']); rw [upd_other _ _ e])
  clear hS hQ
  refine region_frm hF (γ := (Nat → Nat)) (fun i g => match i with
    | 0 => .pointer (some ⟨E 0, 0, none⟩)
    | 1 => .pointer (some ⟨E 0, 0, none⟩)
    | 2 => .pointer (some ⟨E 0, 0, none⟩)
    | 3 => .int .i64 (n : Nat)
    | 4 => .int .i64 ((n : Int) + 1)
    | 5 => .slice (some ⟨g 5, 0, none⟩) (n + 1) (n + 1)
    | 6 => .int .i64 (n : Nat)
    | 7 => .int .i64 ((n : Int) + 1)
    | 8 => .slice (some ⟨g 8, 0, none⟩) (n + 1) (n + 1)
    | 9 => .int .i64 (n : Nat)
    | 10 => .int .i64 ((n : Int) + 1)
    | 11 => .slice (some ⟨g 11, 0, none⟩) (n + 1) (n + 1)
    | 12 => .pointer (some ⟨E 0, 0, none⟩)
    | 13 => .pointer (some ⟨E 0, 3, none⟩)
    | 14 => undef
    | 15 => .pointer (some ⟨E 0, 0, none⟩)
    | 16 => .pointer (some ⟨E 0, 4, none⟩)
    | 17 => undef
    | 18 => .pointer (some ⟨E 0, 0, none⟩)
    | 19 => .pointer (some ⟨E 0, 2, none⟩)
    | 20 => undef
    | _ => undef) (fun l g w' => (∃ D', (∀ i, i ≠ 2 → i ≠ 3 → i ≠ 4 → D' i = D i) ∧ St w0 w' 3 E (upd B 0 (vals 130 21 D')) ∧ (l 14 = true → D' 3 = .slice (some ⟨g 5, 0, none⟩) (n + 1) (n + 1)) ∧ (l 17 = true → D' 4 = .slice (some ⟨g 8, 0, none⟩) (n + 1) (n + 1)) ∧ (l 20 = true → D' 2 = .slice (some ⟨g 11, 0, none⟩) (n + 1) (n + 1))) ∧ Mk w.drew w' l [5, 8, 11] g (fun j => match j with
      | 5 => zrow 3 (n + 1) (.int .i64 0)
      | 8 => zrow 3 (n + 1) (.int .i64 0)
      | 11 => zrow 3 (n + 1) (.int .i64 0)
      | _ => zrow 0 0 undef)) (fun _ => 0) (by kernel_rfl) (by kernel_rfl) ⟨⟨D, (fun _ _ _ _ => rfl), H0.out, fun h => (by cases h), fun h => (by cases h), fun h => (by cases h)⟩, Mk.start _ _ _ _⟩ ?_ ?_
  · refine ⟨?_, ?_, ?_, ?_, ?_, ?_, ?_, ?_, ?_, ?_, ?_, ?_, ?_, ?_, ?_, ?_, ?_, ?_, ?_, ?_, ?_, trivial⟩
    · intro l g a w' K hp hc hl hG hM hK
      have e9 : a.eval (.tmp 9) = .pointer (some ⟨E 0, 0, none⟩) := (hG.oldF hF 9 (by kernel_rfl) (by omega)).trans h9
      have hM' : (∃ D', (∀ i, i ≠ 2 → i ≠ 3 → i ≠ 4 → D' i = D i) ∧ St w0 w' 3 E (upd B 0 (vals 130 21 D')) ∧ ((upd l 0 true) 14 = true → D' 3 = .slice (some ⟨g 5, 0, none⟩) (n + 1) (n + 1)) ∧ ((upd l 0 true) 17 = true → D' 4 = .slice (some ⟨g 8, 0, none⟩) (n + 1) (n + 1)) ∧ ((upd l 0 true) 20 = true → D' 2 = .slice (some ⟨g 11, 0, none⟩) (n + 1) (n + 1))) ∧ Mk w.drew w' (upd l 0 true) [5, 8, 11] g (fun j => match j with
            | 5 => zrow 3 (n + 1) (.int .i64 0)
            | 8 => zrow 3 (n + 1) (.int .i64 0)
            | 11 => zrow 3 (n + 1) (.int .i64 0)
            | _ => zrow 0 0 undef) := ⟨hM.1, hM.2.done 0 (by decide)⟩
      clear hc hp hG hM
      unfold Oper.wp; generalize a.eval = ρ at *; go_simp; exact hK g w' (fun _ _ => rfl) hM'
    · intro l g a w' K hp hc hl hG hM hK
      have e9 : a.eval (.tmp 9) = .pointer (some ⟨E 0, 0, none⟩) := (hG.oldF hF 9 (by kernel_rfl) (by omega)).trans h9
      have hM' : (∃ D', (∀ i, i ≠ 2 → i ≠ 3 → i ≠ 4 → D' i = D i) ∧ St w0 w' 3 E (upd B 0 (vals 130 21 D')) ∧ ((upd l 1 true) 14 = true → D' 3 = .slice (some ⟨g 5, 0, none⟩) (n + 1) (n + 1)) ∧ ((upd l 1 true) 17 = true → D' 4 = .slice (some ⟨g 8, 0, none⟩) (n + 1) (n + 1)) ∧ ((upd l 1 true) 20 = true → D' 2 = .slice (some ⟨g 11, 0, none⟩) (n + 1) (n + 1))) ∧ Mk w.drew w' (upd l 1 true) [5, 8, 11] g (fun j => match j with
            | 5 => zrow 3 (n + 1) (.int .i64 0)
            | 8 => zrow 3 (n + 1) (.int .i64 0)
            | 11 => zrow 3 (n + 1) (.int .i64 0)
            | _ => zrow 0 0 undef) := ⟨hM.1, hM.2.done 1 (by decide)⟩
      clear hc hp hG hM
      unfold Oper.wp; generalize a.eval = ρ at *; go_simp; exact hK g w' (fun _ _ => rfl) hM'
    · intro l g a w' K hp hc hl hG hM hK
      have e9 : a.eval (.tmp 9) = .pointer (some ⟨E 0, 0, none⟩) := (hG.oldF hF 9 (by kernel_rfl) (by omega)).trans h9
      have hM' : (∃ D', (∀ i, i ≠ 2 → i ≠ 3 → i ≠ 4 → D' i = D i) ∧ St w0 w' 3 E (upd B 0 (vals 130 21 D')) ∧ ((upd l 2 true) 14 = true → D' 3 = .slice (some ⟨g 5, 0, none⟩) (n + 1) (n + 1)) ∧ ((upd l 2 true) 17 = true → D' 4 = .slice (some ⟨g 8, 0, none⟩) (n + 1) (n + 1)) ∧ ((upd l 2 true) 20 = true → D' 2 = .slice (some ⟨g 11, 0, none⟩) (n + 1) (n + 1))) ∧ Mk w.drew w' (upd l 2 true) [5, 8, 11] g (fun j => match j with
            | 5 => zrow 3 (n + 1) (.int .i64 0)
            | 8 => zrow 3 (n + 1) (.int .i64 0)
            | 11 => zrow 3 (n + 1) (.int .i64 0)
            | _ => zrow 0 0 undef) := ⟨hM.1, hM.2.done 2 (by decide)⟩
      clear hc hp hG hM
      unfold Oper.wp; generalize a.eval = ρ at *; go_simp; exact hK g w' (fun _ _ => rfl) hM'
    · intro l g a w' K hp hc hl hG hM hK
      have e7 : a.eval (.tmp 7) = .int .i64 (n : Nat) := (hG.oldF hF 7 (by kernel_rfl) (by omega)).trans h7
      have hM' : (∃ D', (∀ i, i ≠ 2 → i ≠ 3 → i ≠ 4 → D' i = D i) ∧ St w0 w' 3 E (upd B 0 (vals 130 21 D')) ∧ ((upd l 3 true) 14 = true → D' 3 = .slice (some ⟨g 5, 0, none⟩) (n + 1) (n + 1)) ∧ ((upd l 3 true) 17 = true → D' 4 = .slice (some ⟨g 8, 0, none⟩) (n + 1) (n + 1)) ∧ ((upd l 3 true) 20 = true → D' 2 = .slice (some ⟨g 11, 0, none⟩) (n + 1) (n + 1))) ∧ Mk w.drew w' (upd l 3 true) [5, 8, 11] g (fun j => match j with
            | 5 => zrow 3 (n + 1) (.int .i64 0)
            | 8 => zrow 3 (n + 1) (.int .i64 0)
            | 11 => zrow 3 (n + 1) (.int .i64 0)
            | _ => zrow 0 0 undef) := ⟨hM.1, hM.2.done 3 (by decide)⟩
      clear hc hp hG hM
      unfold Oper.wp; generalize a.eval = ρ at *; go_simp; exact hK g w' (fun _ _ => rfl) hM'
    · intro l g a w' K hp hc hl hG hM hK
      have e453 : a.eval (.tmp 453) = .int .i64 (n : Nat) := hG.of 453 3 (by kernel_rfl) (preAt hc 21 _ hp (by kernel_rfl))
      have ec : ∀ v, a.eval (.const v) = v := fun _ => rfl
      have hM' : (∃ D', (∀ i, i ≠ 2 → i ≠ 3 → i ≠ 4 → D' i = D i) ∧ St w0 w' 3 E (upd B 0 (vals 130 21 D')) ∧ ((upd l 4 true) 14 = true → D' 3 = .slice (some ⟨g 5, 0, none⟩) (n + 1) (n + 1)) ∧ ((upd l 4 true) 17 = true → D' 4 = .slice (some ⟨g 8, 0, none⟩) (n + 1) (n + 1)) ∧ ((upd l 4 true) 20 = true → D' 2 = .slice (some ⟨g 11, 0, none⟩) (n + 1) (n + 1))) ∧ Mk w.drew w' (upd l 4 true) [5, 8, 11] g (fun j => match j with
            | 5 => zrow 3 (n + 1) (.int .i64 0)
            | 8 => zrow 3 (n + 1) (.int .i64 0)
            | 11 => zrow 3 (n + 1) (.int .i64 0)
            | _ => zrow 0 0 undef) := ⟨hM.1, hM.2.done 4 (by decide)⟩
      clear hc hp hG hM
      unfold Oper.wp; generalize a.eval = ρ at *; go_simp; exact hK g w' (fun _ _ => rfl) hM'
    · intro l g a w' K hp hc hl hG hM hK
      have e454 : a.eval (.tmp 454) = .int .i64 ((n : Int) + 1) := hG.of 454 4 (by kernel_rfl) (preAt hc 21 _ hp (by kernel_rfl))
      refine op_make mty46 (.tmp 454) (.tmp 454) rfl (n + 1) (n + 1) e454 e454 (by omega) (by omega) ?_
      obtain ⟨⟨D', hkp, hS, m14, m17, m20⟩, hk⟩ := hM
      refine hK (upd g 5 w'.heap.size) _ (fun i hi => by
              match i, hi with
              | 0, _ => rfl
              | 1, _ => rfl
              | 2, _ => rfl
              | 3, _ => rfl
              | 4, _ => rfl
              | 5, hi => exact absurd hi (by rw [hl]; decide)
              | 6, _ => rfl
              | 7, _ => rfl
              | 8, _ => rfl
              | 9, _ => rfl
              | 10, _ => rfl
              | 11, _ => rfl
              | 12, _ => rfl
              | 13, _ => rfl
              | 14, _ => rfl
              | 15, _ => rfl
              | 16, _ => rfl
              | 17, _ => rfl
              | 18, _ => rfl
              | 19, _ => rfl
              | 20, _ => rfl
              | _ + 21, _ => rfl) ⟨⟨D', hkp, hS.alloc _, ?_, ?_, ?_⟩, hk.make 5 hl _ (rowOk_z _ _ _ _)⟩
      · intro hx; rw [upd_other _ _ (by omega)] at hx; exact absurd hx (by rw [hc.not 14 21 hl (by kernel_rfl)]; decide)
      · intro hx; rw [upd_other _ _ (by omega)] at hx; rw [upd_other _ _ (by omega)]; exact m17 hx
      · intro hx; rw [upd_other _ _ (by omega)] at hx; rw [upd_other _ _ (by omega)]; exact m20 hx
    · intro l g a w' K hp hc hl hG hM hK
      have e7 : a.eval (.tmp 7) = .int .i64 (n : Nat) := (hG.oldF hF 7 (by kernel_rfl) (by omega)).trans h7
      have hM' : (∃ D', (∀ i, i ≠ 2 → i ≠ 3 → i ≠ 4 → D' i = D i) ∧ St w0 w' 3 E (upd B 0 (vals 130 21 D')) ∧ ((upd l 6 true) 14 = true → D' 3 = .slice (some ⟨g 5, 0, none⟩) (n + 1) (n + 1)) ∧ ((upd l 6 true) 17 = true → D' 4 = .slice (some ⟨g 8, 0, none⟩) (n + 1) (n + 1)) ∧ ((upd l 6 true) 20 = true → D' 2 = .slice (some ⟨g 11, 0, none⟩) (n + 1) (n + 1))) ∧ Mk w.drew w' (upd l 6 true) [5, 8, 11] g (fun j => match j with
            | 5 => zrow 3 (n + 1) (.int .i64 0)
            | 8 => zrow 3 (n + 1) (.int .i64 0)
            | 11 => zrow 3 (n + 1) (.int .i64 0)
            | _ => zrow 0 0 undef) := ⟨hM.1, hM.2.done 6 (by decide)⟩
      clear hc hp hG hM
      unfold Oper.wp; generalize a.eval = ρ at *; go_simp; exact hK g w' (fun _ _ => rfl) hM'
    · intro l g a w' K hp hc hl hG hM hK
      have e456 : a.eval (.tmp 456) = .int .i64 (n : Nat) := hG.of 456 6 (by kernel_rfl) (preAt hc 21 _ hp (by kernel_rfl))
      have ec : ∀ v, a.eval (.const v) = v := fun _ => rfl
      have hM' : (∃ D', (∀ i, i ≠ 2 → i ≠ 3 → i ≠ 4 → D' i = D i) ∧ St w0 w' 3 E (upd B 0 (vals 130 21 D')) ∧ ((upd l 7 true) 14 = true → D' 3 = .slice (some ⟨g 5, 0, none⟩) (n + 1) (n + 1)) ∧ ((upd l 7 true) 17 = true → D' 4 = .slice (some ⟨g 8, 0, none⟩) (n + 1) (n + 1)) ∧ ((upd l 7 true) 20 = true → D' 2 = .slice (some ⟨g 11, 0, none⟩) (n + 1) (n + 1))) ∧ Mk w.drew w' (upd l 7 true) [5, 8, 11] g (fun j => match j with
            | 5 => zrow 3 (n + 1) (.int .i64 0)
            | 8 => zrow 3 (n + 1) (.int .i64 0)
            | 11 => zrow 3 (n + 1) (.int .i64 0)
            | _ => zrow 0 0 undef) := ⟨hM.1, hM.2.done 7 (by decide)⟩
      clear hc hp hG hM
      unfold Oper.wp; generalize a.eval = ρ at *; go_simp; exact hK g w' (fun _ _ => rfl) hM'
    · intro l g a w' K hp hc hl hG hM hK
      have e457 : a.eval (.tmp 457) = .int .i64 ((n : Int) + 1) := hG.of 457 7 (by kernel_rfl) (preAt hc 21 _ hp (by kernel_rfl))
      refine op_make mty46 (.tmp 457) (.tmp 457) rfl (n + 1) (n + 1) e457 e457 (by omega) (by omega) ?_
      obtain ⟨⟨D', hkp, hS, m14, m17, m20⟩, hk⟩ := hM
      refine hK (upd g 8 w'.heap.size) _ (fun i hi => by
              match i, hi with
              | 0, _ => rfl
              | 1, _ => rfl
              | 2, _ => rfl
              | 3, _ => rfl
              | 4, _ => rfl
              | 5, _ => rfl
              | 6, _ => rfl
              | 7, _ => rfl
              | 8, hi => exact absurd hi (by rw [hl]; decide)
              | 9, _ => rfl
              | 10, _ => rfl
              | 11, _ => rfl
              | 12, _ => rfl
              | 13, _ => rfl
              | 14, _ => rfl
              | 15, _ => rfl
              | 16, _ => rfl
              | 17, _ => rfl
              | 18, _ => rfl
              | 19, _ => rfl
              | 20, _ => rfl
              | _ + 21, _ => rfl) ⟨⟨D', hkp, hS.alloc _, ?_, ?_, ?_⟩, hk.make 8 hl _ (rowOk_z _ _ _ _)⟩
      · intro hx; rw [upd_other _ _ (by omega)] at hx; rw [upd_other _ _ (by omega)]; exact m14 hx
      · intro hx; rw [upd_other _ _ (by omega)] at hx; exact absurd hx (by rw [hc.not 17 21 hl (by kernel_rfl)]; decide)
      · intro hx; rw [upd_other _ _ (by omega)] at hx; rw [upd_other _ _ (by omega)]; exact m20 hx
    · intro l g a w' K hp hc hl hG hM hK
      have e7 : a.eval (.tmp 7) = .int .i64 (n : Nat) := (hG.oldF hF 7 (by kernel_rfl) (by omega)).trans h7
      have hM' : (∃ D', (∀ i, i ≠ 2 → i ≠ 3 → i ≠ 4 → D' i = D i) ∧ St w0 w' 3 E (upd B 0 (vals 130 21 D')) ∧ ((upd l 9 true) 14 = true → D' 3 = .slice (some ⟨g 5, 0, none⟩) (n + 1) (n + 1)) ∧ ((upd l 9 true) 17 = true → D' 4 = .slice (some ⟨g 8, 0, none⟩) (n + 1) (n + 1)) ∧ ((upd l 9 true) 20 = true → D' 2 = .slice (some ⟨g 11, 0, none⟩) (n + 1) (n + 1))) ∧ Mk w.drew w' (upd l 9 true) [5, 8, 11] g (fun j => match j with
            | 5 => zrow 3 (n + 1) (.int .i64 0)
            | 8 => zrow 3 (n + 1) (.int .i64 0)
            | 11 => zrow 3 (n + 1) (.int .i64 0)
            | _ => zrow 0 0 undef) := ⟨hM.1, hM.2.done 9 (by decide)⟩
      clear hc hp hG hM
      unfold Oper.wp; generalize a.eval = ρ at *; go_simp; exact hK g w' (fun _ _ => rfl) hM'
    · intro l g a w' K hp hc hl hG hM hK
      have e459 : a.eval (.tmp 459) = .int .i64 (n : Nat) := hG.of 459 9 (by kernel_rfl) (preAt hc 21 _ hp (by kernel_rfl))
      have ec : ∀ v, a.eval (.const v) = v := fun _ => rfl
      have hM' : (∃ D', (∀ i, i ≠ 2 → i ≠ 3 → i ≠ 4 → D' i = D i) ∧ St w0 w' 3 E (upd B 0 (vals 130 21 D')) ∧ ((upd l 10 true) 14 = true → D' 3 = .slice (some ⟨g 5, 0, none⟩) (n + 1) (n + 1)) ∧ ((upd l 10 true) 17 = true → D' 4 = .slice (some ⟨g 8, 0, none⟩) (n + 1) (n + 1)) ∧ ((upd l 10 true) 20 = true → D' 2 = .slice (some ⟨g 11, 0, none⟩) (n + 1) (n + 1))) ∧ Mk w.drew w' (upd l 10 true) [5, 8, 11] g (fun j => match j with
            | 5 => zrow 3 (n + 1) (.int .i64 0)
            | 8 => zrow 3 (n + 1) (.int .i64 0)
            | 11 => zrow 3 (n + 1) (.int .i64 0)
            | _ => zrow 0 0 undef) := ⟨hM.1, hM.2.done 10 (by decide)⟩
      clear hc hp hG hM
      unfold Oper.wp; generalize a.eval = ρ at *; go_simp; exact hK g w' (fun _ _ => rfl) hM'
    · intro l g a w' K hp hc hl hG hM hK
      have e460 : a.eval (.tmp 460) = .int .i64 ((n : Int) + 1) := hG.of 460 10 (by kernel_rfl) (preAt hc 21 _ hp (by kernel_rfl))
      refine op_make mty46 (.tmp 460) (.tmp 460) rfl (n + 1) (n + 1) e460 e460 (by omega) (by omega) ?_
      obtain ⟨⟨D', hkp, hS, m14, m17, m20⟩, hk⟩ := hM
      refine hK (upd g 11 w'.heap.size) _ (fun i hi => by
              match i, hi with
              | 0, _ => rfl
              | 1, _ => rfl
              | 2, _ => rfl
              | 3, _ => rfl
              | 4, _ => rfl
              | 5, _ => rfl
              | 6, _ => rfl
              | 7, _ => rfl
              | 8, _ => rfl
              | 9, _ => rfl
              | 10, _ => rfl
              | 11, hi => exact absurd hi (by rw [hl]; decide)
              | 12, _ => rfl
              | 13, _ => rfl
              | 14, _ => rfl
              | 15, _ => rfl
              | 16, _ => rfl
              | 17, _ => rfl
              | 18, _ => rfl
              | 19, _ => rfl
              | 20, _ => rfl
              | _ + 21, _ => rfl) ⟨⟨D', hkp, hS.alloc _, ?_, ?_, ?_⟩, hk.make 11 hl _ (rowOk_z _ _ _ _)⟩
      · intro hx; rw [upd_other _ _ (by omega)] at hx; rw [upd_other _ _ (by omega)]; exact m14 hx
      · intro hx; rw [upd_other _ _ (by omega)] at hx; rw [upd_other _ _ (by omega)]; exact m17 hx
      · intro hx; rw [upd_other _ _ (by omega)] at hx; exact absurd hx (by rw [hc.not 20 21 hl (by kernel_rfl)]; decide)
    · intro l g a w' K hp hc hl hG hM hK
      have e450 : a.eval (.tmp 450) = .pointer (some ⟨E 0, 0, none⟩) := hG.of 450 0 (by kernel_rfl) (preAt hc 21 _ hp (by kernel_rfl))
      have hM' : (∃ D', (∀ i, i ≠ 2 → i ≠ 3 → i ≠ 4 → D' i = D i) ∧ St w0 w' 3 E (upd B 0 (vals 130 21 D')) ∧ ((upd l 12 true) 14 = true → D' 3 = .slice (some ⟨g 5, 0, none⟩) (n + 1) (n + 1)) ∧ ((upd l 12 true) 17 = true → D' 4 = .slice (some ⟨g 8, 0, none⟩) (n + 1) (n + 1)) ∧ ((upd l 12 true) 20 = true → D' 2 = .slice (some ⟨g 11, 0, none⟩) (n + 1) (n + 1))) ∧ Mk w.drew w' (upd l 12 true) [5, 8, 11] g (fun j => match j with
            | 5 => zrow 3 (n + 1) (.int .i64 0)
            | 8 => zrow 3 (n + 1) (.int .i64 0)
            | 11 => zrow 3 (n + 1) (.int .i64 0)
            | _ => zrow 0 0 undef) := ⟨hM.1, hM.2.done 12 (by decide)⟩
      clear hc hp hG hM
      unfold Oper.wp; generalize a.eval = ρ at *; go_simp; exact hK g w' (fun _ _ => rfl) hM'
    · intro l g a w' K hp hc hl hG hM hK
      have e462 : a.eval (.tmp 462) = .pointer (some ⟨E 0, 0, none⟩) := hG.of 462 12 (by kernel_rfl) (preAt hc 21 _ hp (by kernel_rfl))
      have hM' : (∃ D', (∀ i, i ≠ 2 → i ≠ 3 → i ≠ 4 → D' i = D i) ∧ St w0 w' 3 E (upd B 0 (vals 130 21 D')) ∧ ((upd l 13 true) 14 = true → D' 3 = .slice (some ⟨g 5, 0, none⟩) (n + 1) (n + 1)) ∧ ((upd l 13 true) 17 = true → D' 4 = .slice (some ⟨g 8, 0, none⟩) (n + 1) (n + 1)) ∧ ((upd l 13 true) 20 = true → D' 2 = .slice (some ⟨g 11, 0, none⟩) (n + 1) (n + 1))) ∧ Mk w.drew w' (upd l 13 true) [5, 8, 11] g (fun j => match j with
            | 5 => zrow 3 (n + 1) (.int .i64 0)
            | 8 => zrow 3 (n + 1) (.int .i64 0)
            | 11 => zrow 3 (n + 1) (.int .i64 0)
            | _ => zrow 0 0 undef) := ⟨hM.1, hM.2.done 13 (by decide)⟩
      clear hc hp hG hM
      unfold Oper.wp; generalize a.eval = ρ at *; go_simp; exact hK g w' (fun _ _ => rfl) hM'
    · intro l g a w' K hp hc hl hG hM hK
      have e463 : a.eval (.tmp 463) = .pointer (some ⟨E 0, 3, none⟩) := hG.of 463 13 (by kernel_rfl) (preAt hc 21 _ hp (by kernel_rfl))
      have e455 : a.eval (.tmp 455) = .slice (some ⟨g 5, 0, none⟩) (n + 1) (n + 1) := hG.of 455 5 (by kernel_rfl) (preAt hc 21 _ hp (by kernel_rfl))
      obtain ⟨⟨D', hkp, hS, m14, m17, m20⟩, hk⟩ := hM
      have hS' := hS.setVal (k := 0) (by omega) (upd_same _ _ _) 3 (.slice (some ⟨g 5, 0, none⟩) (n + 1) (n + 1))
      have kc := hS.valAt (k := 0) (by omega) (upd_same _ _ _) (i := 3) (by omega)
      have kf := hS.frz 0 (by omega) 3
      rw [upd_upd] at hS'
      have hk' := hk.set (b := E 0) (hlt 0 (by omega)) 3 (.slice (some ⟨g 5, 0, none⟩) (n + 1) (n + 1))
      have fin := hK g (w'.setCell ⟨E 0, 3, none⟩ (.slice (some ⟨g 5, 0, none⟩) (n + 1) (n + 1))) (fun _ _ => rfl) ⟨⟨_, fun i q0 q1 q2 => (upd_other _ _ q1).trans (hkp i q0 q1 q2), hS', fun _ => upd_same _ _ _, fun hx => (upd_other _ _ (by omega)).trans (m17 (by rwa [upd_other _ _ (by omega)] at hx)), fun hx => (upd_other _ _ (by omega)).trans (m20 (by rwa [upd_other _ _ (by omega)] at hx))⟩, hk'.done 14 (by decide)⟩
      clear hK hc hp hG hS hS' hk hk' m14 m17 m20
      unfold Oper.wp; generalize a.eval = ρ at *; go_simp; exact fin
    · intro l g a w' K hp hc hl hG hM hK
      have e451 : a.eval (.tmp 451) = .pointer (some ⟨E 0, 0, none⟩) := hG.of 451 1 (by kernel_rfl) (preAt hc 21 _ hp (by kernel_rfl))
      have hM' : (∃ D', (∀ i, i ≠ 2 → i ≠ 3 → i ≠ 4 → D' i = D i) ∧ St w0 w' 3 E (upd B 0 (vals 130 21 D')) ∧ ((upd l 15 true) 14 = true → D' 3 = .slice (some ⟨g 5, 0, none⟩) (n + 1) (n + 1)) ∧ ((upd l 15 true) 17 = true → D' 4 = .slice (some ⟨g 8, 0, none⟩) (n + 1) (n + 1)) ∧ ((upd l 15 true) 20 = true → D' 2 = .slice (some ⟨g 11, 0, none⟩) (n + 1) (n + 1))) ∧ Mk w.drew w' (upd l 15 true) [5, 8, 11] g (fun j => match j with
            | 5 => zrow 3 (n + 1) (.int .i64 0)
            | 8 => zrow 3 (n + 1) (.int .i64 0)
            | 11 => zrow 3 (n + 1) (.int .i64 0)
            | _ => zrow 0 0 undef) := ⟨hM.1, hM.2.done 15 (by decide)⟩
      clear hc hp hG hM
      unfold Oper.wp; generalize a.eval = ρ at *; go_simp; exact hK g w' (fun _ _ => rfl) hM'
    · intro l g a w' K hp hc hl hG hM hK
      have e464 : a.eval (.tmp 464) = .pointer (some ⟨E 0, 0, none⟩) := hG.of 464 15 (by kernel_rfl) (preAt hc 21 _ hp (by kernel_rfl))
      have hM' : (∃ D', (∀ i, i ≠ 2 → i ≠ 3 → i ≠ 4 → D' i = D i) ∧ St w0 w' 3 E (upd B 0 (vals 130 21 D')) ∧ ((upd l 16 true) 14 = true → D' 3 = .slice (some ⟨g 5, 0, none⟩) (n + 1) (n + 1)) ∧ ((upd l 16 true) 17 = true → D' 4 = .slice (some ⟨g 8, 0, none⟩) (n + 1) (n + 1)) ∧ ((upd l 16 true) 20 = true → D' 2 = .slice (some ⟨g 11, 0, none⟩) (n + 1) (n + 1))) ∧ Mk w.drew w' (upd l 16 true) [5, 8, 11] g (fun j => match j with
            | 5 => zrow 3 (n + 1) (.int .i64 0)
            | 8 => zrow 3 (n + 1) (.int .i64 0)
            | 11 => zrow 3 (n + 1) (.int .i64 0)
            | _ => zrow 0 0 undef) := ⟨hM.1, hM.2.done 16 (by decide)⟩
      clear hc hp hG hM
      unfold Oper.wp; generalize a.eval = ρ at *; go_simp; exact hK g w' (fun _ _ => rfl) hM'
    · intro l g a w' K hp hc hl hG hM hK
      have e465 : a.eval (.tmp 465) = .pointer (some ⟨E 0, 4, none⟩) := hG.of 465 16 (by kernel_rfl) (preAt hc 21 _ hp (by kernel_rfl))
      have e458 : a.eval (.tmp 458) = .slice (some ⟨g 8, 0, none⟩) (n + 1) (n + 1) := hG.of 458 8 (by kernel_rfl) (preAt hc 21 _ hp (by kernel_rfl))
      obtain ⟨⟨D', hkp, hS, m14, m17, m20⟩, hk⟩ := hM
      have hS' := hS.setVal (k := 0) (by omega) (upd_same _ _ _) 4 (.slice (some ⟨g 8, 0, none⟩) (n + 1) (n + 1))
      have kc := hS.valAt (k := 0) (by omega) (upd_same _ _ _) (i := 4) (by omega)
      have kf := hS.frz 0 (by omega) 4
      rw [upd_upd] at hS'
      have hk' := hk.set (b := E 0) (hlt 0 (by omega)) 4 (.slice (some ⟨g 8, 0, none⟩) (n + 1) (n + 1))
      have fin := hK g (w'.setCell ⟨E 0, 4, none⟩ (.slice (some ⟨g 8, 0, none⟩) (n + 1) (n + 1))) (fun _ _ => rfl) ⟨⟨_, fun i q0 q1 q2 => (upd_other _ _ q2).trans (hkp i q0 q1 q2), hS', fun hx => (upd_other _ _ (by omega)).trans (m14 (by rwa [upd_other _ _ (by omega)] at hx)), fun _ => upd_same _ _ _, fun hx => (upd_other _ _ (by omega)).trans (m20 (by rwa [upd_other _ _ (by omega)] at hx))⟩, hk'.done 17 (by decide)⟩
      clear hK hc hp hG hS hS' hk hk' m14 m17 m20
      unfold Oper.wp; generalize a.eval = ρ at *; go_simp; exact fin
    · intro l g a w' K hp hc hl hG hM hK
      have e452 : a.eval (.tmp 452) = .pointer (some ⟨E 0, 0, none⟩) := hG.of 452 2 (by kernel_rfl) (preAt hc 21 _ hp (by kernel_rfl))
      have hM' : (∃ D', (∀ i, i ≠ 2 → i ≠ 3 → i ≠ 4 → D' i = D i) ∧ St w0 w' 3 E (upd B 0 (vals 130 21 D')) ∧ ((upd l 18 true) 14 = true → D' 3 = .slice (some ⟨g 5, 0, none⟩) (n + 1) (n + 1)) ∧ ((upd l 18 true) 17 = true → D' 4 = .slice (some ⟨g 8, 0, none⟩) (n + 1) (n + 1)) ∧ ((upd l 18 true) 20 = true → D' 2 = .slice (some ⟨g 11, 0, none⟩) (n + 1) (n + 1))) ∧ Mk w.drew w' (upd l 18 true) [5, 8, 11] g (fun j => match j with
            | 5 => zrow 3 (n + 1) (.int .i64 0)
            | 8 => zrow 3 (n + 1) (.int .i64 0)
            | 11 => zrow 3 (n + 1) (.int .i64 0)
            | _ => zrow 0 0 undef) := ⟨hM.1, hM.2.done 18 (by decide)⟩
      clear hc hp hG hM
      unfold Oper.wp; generalize a.eval = ρ at *; go_simp; exact hK g w' (fun _ _ => rfl) hM'
    · intro l g a w' K hp hc hl hG hM hK
      have e466 : a.eval (.tmp 466) = .pointer (some ⟨E 0, 0, none⟩) := hG.of 466 18 (by kernel_rfl) (preAt hc 21 _ hp (by kernel_rfl))
      have hM' : (∃ D', (∀ i, i ≠ 2 → i ≠ 3 → i ≠ 4 → D' i = D i) ∧ St w0 w' 3 E (upd B 0 (vals 130 21 D')) ∧ ((upd l 19 true) 14 = true → D' 3 = .slice (some ⟨g 5, 0, none⟩) (n + 1) (n + 1)) ∧ ((upd l 19 true) 17 = true → D' 4 = .slice (some ⟨g 8, 0, none⟩) (n + 1) (n + 1)) ∧ ((upd l 19 true) 20 = true → D' 2 = .slice (some ⟨g 11, 0, none⟩) (n + 1) (n + 1))) ∧ Mk w.drew w' (upd l 19 true) [5, 8, 11] g (fun j => match j with
            | 5 => zrow 3 (n + 1) (.int .i64 0)
            | 8 => zrow 3 (n + 1) (.int .i64 0)
            | 11 => zrow 3 (n + 1) (.int .i64 0)
            | _ => zrow 0 0 undef) := ⟨hM.1, hM.2.done 19 (by decide)⟩
      clear hc hp hG hM
      unfold Oper.wp; generalize a.eval = ρ at *; go_simp; exact hK g w' (fun _ _ => rfl) hM'
    · intro l g a w' K hp hc hl hG hM hK
      have e467 : a.eval (.tmp 467) = .pointer (some ⟨E 0, 2, none⟩) := hG.of 467 19 (by kernel_rfl) (preAt hc 21 _ hp (by kernel_rfl))
      have e461 : a.eval (.tmp 461) = .slice (some ⟨g 11, 0, none⟩) (n + 1) (n + 1) := hG.of 461 11 (by kernel_rfl) (preAt hc 21 _ hp (by kernel_rfl))
      obtain ⟨⟨D', hkp, hS, m14, m17, m20⟩, hk⟩ := hM
      have hS' := hS.setVal (k := 0) (by omega) (upd_same _ _ _) 2 (.slice (some ⟨g 11, 0, none⟩) (n + 1) (n + 1))
      have kc := hS.valAt (k := 0) (by omega) (upd_same _ _ _) (i := 2) (by omega)
      have kf := hS.frz 0 (by omega) 2
      rw [upd_upd] at hS'
      have hk' := hk.set (b := E 0) (hlt 0 (by omega)) 2 (.slice (some ⟨g 11, 0, none⟩) (n + 1) (n + 1))
      have fin := hK g (w'.setCell ⟨E 0, 2, none⟩ (.slice (some ⟨g 11, 0, none⟩) (n + 1) (n + 1))) (fun _ _ => rfl) ⟨⟨_, fun i q0 q1 q2 => (upd_other _ _ q0).trans (hkp i q0 q1 q2), hS', fun hx => (upd_other _ _ (by omega)).trans (m14 (by rwa [upd_other _ _ (by omega)] at hx)), fun hx => (upd_other _ _ (by omega)).trans (m17 (by rwa [upd_other _ _ (by omega)] at hx)), fun _ => upd_same _ _ _⟩, hk'.done 20 (by decide)⟩
      clear hK hc hp hG hS hS' hk hk' m14 m17 m20
      unfold Oper.wp; generalize a.eval = ρ at *; go_simp; exact fin
  · intro l g x w' hl hv ho hM
    obtain ⟨⟨D', hkp, hS, m14, m17, m20⟩, hk⟩ := hM
    have all : ∀ i, i < 21 → l i = true := hl
    obtain ⟨p5, r5⟩ := hk.row 5 (by decide) (all 5 (by omega))
    obtain ⟨p8, r8⟩ := hk.row 8 (by decide) (all 8 (by omega))
    obtain ⟨p11, r11⟩ := hk.row 11 (by decide) (all 11 (by omega))
    have n5_8 : g 5 ≠ g 8 := fun e => absurd (hk.ne 5 (by decide) 8 (by decide) (all 5 (by omega)) (all 8 (by omega)) e) (by omega)
    have n5_11 : g 5 ≠ g 11 := fun e => absurd (hk.ne 5 (by decide) 11 (by decide) (all 5 (by omega)) (all 11 (by omega)) e) (by omega)
    have n8_11 : g 8 ≠ g 11 := fun e => absurd (hk.ne 8 (by decide) 11 (by decide) (all 8 (by omega)) (all 11 (by omega)) e) (by omega)
    have s0 := hS.add (g 5) _ r5 (by omega) (fun k hk => by
      have := hlt k (by omega)
      omega)
    have s1 := s0.add (g 8) _ r8 (by omega) (fun k hk => by
      by_cases e0 : k = 3
      · subst e0; rw [upd_same]; exact n5_8
      rw [upd_other _ _ e0]
      have := hlt k (by omega)
      omega)
    have s2 := s1.add (g 11) _ r11 (by omega) (fun k hk => by
      by_cases e1 : k = 4
      · subst e1; rw [upd_same]; exact n8_11
      rw [upd_other _ _ e1]
      by_cases e0 : k = 3
      · subst e0; rw [upd_same]; exact n5_11
      rw [upd_other _ _ e0]
      have := hlt k (by omega)
      omega)
    exact HQ.out x w' (g 5) (g 8) (g 11) D' (fun s hs hw => ho s hs hw) s2 (m14 (all 14 (by omega))) (m17 (all 17 (by omega))) (m20 (all 20 (by omega))) hkp
set_option maxHeartbeats 4000000 in
set_option maxRecDepth 100000 in
theorem r94 {F : (Nat → Value) → Act} (hF : Fr 577 F) {w0 w : World} {E : Nat → Nat} {B : Nat → Lb} {D : Nat → Value} {f : Nat → Value} {Q : Exit → Act → World → Prop} {n : Nat} (hn : n ≤ 100000) (h7 : f 7 = .int .i64 (n : Nat))
    (hS : St w0 w 6 E B) (hb0' : B 0 = vals 130 21 D) (h9 : f 9 = .pointer (some ⟨E 0, 0, none⟩))
    (hQ : ∀ x w' g4 g7 D', (∀ s, s < 577 → wrF (opsL (Ybaz.f38.body.bind (regAt 94))) 0 s = none → x s = f s) → St w0 w' 8 (upd (upd E 6 g4) 7 g7) (upd (upd (upd B 0 (vals 130 21 D')) 6 (zrow 3 (n + 1) (.int .i64 0))) 7 (zrow 3 (n + 1) (.int .i64 0))) → D' 7 = .slice (some ⟨g4, 0, none⟩) 1 (n + 1) → D' 8 = .slice (some ⟨g7, 0, none⟩) 0 (n + 1) → (∀ i, i ≠ 7 → i ≠ 8 → D' i = D i) → Q .normal (F x) w') :
    ((Ybaz.f38.body.bind (regAt 94)).getD .skip).wp Ybaz.prog Q (F f) w := by
  conv => arg 2; whnf
  have hw : IntKind.i64.wrap ((n : Int) + 1) = (n : Int) + 1 := by rw [IntKind.wrap_i64]; omega
  have hlt : ∀ k, k < 6 → E k < w.drew.heap.size := fun k hk => (hS.row k hk).lt
  have hsz : w0.heap.size ≤ w.drew.heap.size := hS.since.size
  have HQ : Hid (∀ x w' g4 g7 D', (∀ s, s < 577 → wrF (opsL (Ybaz.f38.body.bind (regAt 94))) 0 s = none → x s = f s) → St w0 w' 8 (upd (upd E 6 g4) 7 g7) (upd (upd (upd B 0 (vals 130 21 D')) 6 (zrow 3 (n + 1) (.int .i64 0))) 7 (zrow 3 (n + 1) (.int .i64 0))) → D' 7 = .slice (some ⟨g4, 0, none⟩) 1 (n + 1) → D' 8 = .slice (some ⟨g7, 0, none⟩) 0 (n + 1) → (∀ i, i ≠ 7 → i ≠ 8 → D' i = D i) → Q .normal (F x) w') := hQ
  have H0 : Hid (St w0 w.drew 6 E (upd B 0 (vals 130 21 D))) := hS.drew.congr (fun _ _ => rfl) (fun k _ => by by_cases e : k = 0; (subst e; rw [upd_same, hb0']); rw [upd_other _ _ e])
  clear hS hQ
  refine region_frm hF (γ := (Nat → Nat)) (fun i g => match i with
    | 0 => .pointer (some ⟨E 0, 0, none⟩)
    | 1 => .pointer (some ⟨E 0, 0, none⟩)
    | 2 => .int .i64 (n : Nat)
    | 3 => .int .i64 ((n : Int) + 1)
    | 4 => .slice (some ⟨g 4, 0, none⟩) 1 (n + 1)
    | 5 => .int .i64 (n : Nat)
    | 6 => .int .i64 ((n : Int) + 1)
    | 7 => .slice (some ⟨g 7, 0, none⟩) 0 (n + 1)
    | 8 => .pointer (some ⟨E 0, 0, none⟩)
    | 9 => .pointer (some ⟨E 0, 7, none⟩)
    | 10 => undef
    | 11 => .pointer (some ⟨E 0, 0, none⟩)
    | 12 => .pointer (some ⟨E 0, 8, none⟩)
    | 13 => undef
    | _ => undef) (fun l g w' => (∃ D', (∀ i, i ≠ 7 → i ≠ 8 → D' i = D i) ∧ St w0 w' 6 E (upd B 0 (vals 130 21 D')) ∧ (l 10 = true → D' 7 = .slice (some ⟨g 4, 0, none⟩) 1 (n + 1)) ∧ (l 13 = true → D' 8 = .slice (some ⟨g 7, 0, none⟩) 0 (n + 1))) ∧ Mk w.drew w' l [4, 7] g (fun j => match j with
      | 4 => zrow 3 (n + 1) (.int .i64 0)
      | 7 => zrow 3 (n + 1) (.int .i64 0)
      | _ => zrow 0 0 undef)) (fun _ => 0) (by kernel_rfl) (by kernel_rfl) ⟨⟨D, (fun _ _ _ => rfl), H0.out, fun h => (by cases h), fun h => (by cases h)⟩, Mk.start _ _ _ _⟩ ?_ ?_
  · refine ⟨?_, ?_, ?_, ?_, ?_, ?_, ?_, ?_, ?_, ?_, ?_, ?_, ?_, ?_, trivial⟩
    · intro l g a w' K hp hc hl hG hM hK
      have e9 : a.eval (.tmp 9) = .pointer (some ⟨E 0, 0, none⟩) := (hG.oldF hF 9 (by kernel_rfl) (by omega)).trans h9
      have hM' : (∃ D', (∀ i, i ≠ 7 → i ≠ 8 → D' i = D i) ∧ St w0 w' 6 E (upd B 0 (vals 130 21 D')) ∧ ((upd l 0 true) 10 = true → D' 7 = .slice (some ⟨g 4, 0, none⟩) 1 (n + 1)) ∧ ((upd l 0 true) 13 = true → D' 8 = .slice (some ⟨g 7, 0, none⟩) 0 (n + 1))) ∧ Mk w.drew w' (upd l 0 true) [4, 7] g (fun j => match j with
            | 4 => zrow 3 (n + 1) (.int .i64 0)
            | 7 => zrow 3 (n + 1) (.int .i64 0)
            | _ => zrow 0 0 undef) := ⟨hM.1, hM.2.done 0 (by decide)⟩
      clear hc hp hG hM
      unfold Oper.wp; generalize a.eval = ρ at *; go_simp; exact hK g w' (fun _ _ => rfl) hM'
    · intro l g a w' K hp hc hl hG hM hK
      have e9 : a.eval (.tmp 9) = .pointer (some ⟨E 0, 0, none⟩) := (hG.oldF hF 9 (by kernel_rfl) (by omega)).trans h9
      have hM' : (∃ D', (∀ i, i ≠ 7 → i ≠ 8 → D' i = D i) ∧ St w0 w' 6 E (upd B 0 (vals 130 21 D')) ∧ ((upd l 1 true) 10 = true → D' 7 = .slice (some ⟨g 4, 0, none⟩) 1 (n + 1)) ∧ ((upd l 1 true) 13 = true → D' 8 = .slice (some ⟨g 7, 0, none⟩) 0 (n + 1))) ∧ Mk w.drew w' (upd l 1 true) [4, 7] g (fun j => match j with
            | 4 => zrow 3 (n + 1) (.int .i64 0)
            | 7 => zrow 3 (n + 1) (.int .i64 0)
            | _ => zrow 0 0 undef) := ⟨hM.1, hM.2.done 1 (by decide)⟩
      clear hc hp hG hM
      unfold Oper.wp; generalize a.eval = ρ at *; go_simp; exact hK g w' (fun _ _ => rfl) hM'
    · intro l g a w' K hp hc hl hG hM hK
      have e7 : a.eval (.tmp 7) = .int .i64 (n : Nat) := (hG.oldF hF 7 (by kernel_rfl) (by omega)).trans h7
      have hM' : (∃ D', (∀ i, i ≠ 7 → i ≠ 8 → D' i = D i) ∧ St w0 w' 6 E (upd B 0 (vals 130 21 D')) ∧ ((upd l 2 true) 10 = true → D' 7 = .slice (some ⟨g 4, 0, none⟩) 1 (n + 1)) ∧ ((upd l 2 true) 13 = true → D' 8 = .slice (some ⟨g 7, 0, none⟩) 0 (n + 1))) ∧ Mk w.drew w' (upd l 2 true) [4, 7] g (fun j => match j with
            | 4 => zrow 3 (n + 1) (.int .i64 0)
            | 7 => zrow 3 (n + 1) (.int .i64 0)
            | _ => zrow 0 0 undef) := ⟨hM.1, hM.2.done 2 (by decide)⟩
      clear hc hp hG hM
      unfold Oper.wp; generalize a.eval = ρ at *; go_simp; exact hK g w' (fun _ _ => rfl) hM'
    · intro l g a w' K hp hc hl hG hM hK
      have e470 : a.eval (.tmp 470) = .int .i64 (n : Nat) := hG.of 470 2 (by kernel_rfl) (preAt hc 14 _ hp (by kernel_rfl))
      have ec : ∀ v, a.eval (.const v) = v := fun _ => rfl
      have hM' : (∃ D', (∀ i, i ≠ 7 → i ≠ 8 → D' i = D i) ∧ St w0 w' 6 E (upd B 0 (vals 130 21 D')) ∧ ((upd l 3 true) 10 = true → D' 7 = .slice (some ⟨g 4, 0, none⟩) 1 (n + 1)) ∧ ((upd l 3 true) 13 = true → D' 8 = .slice (some ⟨g 7, 0, none⟩) 0 (n + 1))) ∧ Mk w.drew w' (upd l 3 true) [4, 7] g (fun j => match j with
            | 4 => zrow 3 (n + 1) (.int .i64 0)
            | 7 => zrow 3 (n + 1) (.int .i64 0)
            | _ => zrow 0 0 undef) := ⟨hM.1, hM.2.done 3 (by decide)⟩
      clear hc hp hG hM
      unfold Oper.wp; generalize a.eval = ρ at *; go_simp; exact hK g w' (fun _ _ => rfl) hM'
    · intro l g a w' K hp hc hl hG hM hK
      have e471 : a.eval (.tmp 471) = .int .i64 ((n : Int) + 1) := hG.of 471 3 (by kernel_rfl) (preAt hc 14 _ hp (by kernel_rfl))
      have ec : ∀ v, a.eval (.const v) = v := fun _ => rfl
      refine op_make mty46 (.const (.int .i64 1)) (.tmp 471) rfl 1 (n + 1) rfl e471 (by omega) (by omega) ?_
      obtain ⟨⟨D', hkp, hS, m10, m13⟩, hk⟩ := hM
      refine hK (upd g 4 w'.heap.size) _ (fun i hi => by
              match i, hi with
              | 0, _ => rfl
              | 1, _ => rfl
              | 2, _ => rfl
              | 3, _ => rfl
              | 4, hi => exact absurd hi (by rw [hl]; decide)
              | 5, _ => rfl
              | 6, _ => rfl
              | 7, _ => rfl
              | 8, _ => rfl
              | 9, _ => rfl
              | 10, _ => rfl
              | 11, _ => rfl
              | 12, _ => rfl
              | 13, _ => rfl
              | _ + 14, _ => rfl) ⟨⟨D', hkp, hS.alloc _, ?_, ?_⟩, hk.make 4 hl _ (rowOk_z _ _ _ _)⟩
      · intro hx; rw [upd_other _ _ (by omega)] at hx; exact absurd hx (by rw [hc.not 10 14 hl (by kernel_rfl)]; decide)
      · intro hx; rw [upd_other _ _ (by omega)] at hx; rw [upd_other _ _ (by omega)]; exact m13 hx
    · intro l g a w' K hp hc hl hG hM hK
      have e7 : a.eval (.tmp 7) = .int .i64 (n : Nat) := (hG.oldF hF 7 (by kernel_rfl) (by omega)).trans h7
      have hM' : (∃ D', (∀ i, i ≠ 7 → i ≠ 8 → D' i = D i) ∧ St w0 w' 6 E (upd B 0 (vals 130 21 D')) ∧ ((upd l 5 true) 10 = true → D' 7 = .slice (some ⟨g 4, 0, none⟩) 1 (n + 1)) ∧ ((upd l 5 true) 13 = true → D' 8 = .slice (some ⟨g 7, 0, none⟩) 0 (n + 1))) ∧ Mk w.drew w' (upd l 5 true) [4, 7] g (fun j => match j with
            | 4 => zrow 3 (n + 1) (.int .i64 0)
            | 7 => zrow 3 (n + 1) (.int .i64 0)
            | _ => zrow 0 0 undef) := ⟨hM.1, hM.2.done 5 (by decide)⟩
      clear hc hp hG hM
      unfold Oper.wp; generalize a.eval = ρ at *; go_simp; exact hK g w' (fun _ _ => rfl) hM'
    · intro l g a w' K hp hc hl hG hM hK
      have e473 : a.eval (.tmp 473) = .int .i64 (n : Nat) := hG.of 473 5 (by kernel_rfl) (preAt hc 14 _ hp (by kernel_rfl))
      have ec : ∀ v, a.eval (.const v) = v := fun _ => rfl
      have hM' : (∃ D', (∀ i, i ≠ 7 → i ≠ 8 → D' i = D i) ∧ St w0 w' 6 E (upd B 0 (vals 130 21 D')) ∧ ((upd l 6 true) 10 = true → D' 7 = .slice (some ⟨g 4, 0, none⟩) 1 (n + 1)) ∧ ((upd l 6 true) 13 = true → D' 8 = .slice (some ⟨g 7, 0, none⟩) 0 (n + 1))) ∧ Mk w.drew w' (upd l 6 true) [4, 7] g (fun j => match j with
            | 4 => zrow 3 (n + 1) (.int .i64 0)
            | 7 => zrow 3 (n + 1) (.int .i64 0)
            | _ => zrow 0 0 undef) := ⟨hM.1, hM.2.done 6 (by decide)⟩
      clear hc hp hG hM
      unfold Oper.wp; generalize a.eval = ρ at *; go_simp; exact hK g w' (fun _ _ => rfl) hM'
    · intro l g a w' K hp hc hl hG hM hK
      have e474 : a.eval (.tmp 474) = .int .i64 ((n : Int) + 1) := hG.of 474 6 (by kernel_rfl) (preAt hc 14 _ hp (by kernel_rfl))
      have ec : ∀ v, a.eval (.const v) = v := fun _ => rfl
      refine op_make mty46 (.const (.int .i64 0)) (.tmp 474) rfl 0 (n + 1) rfl e474 (by omega) (by omega) ?_
      obtain ⟨⟨D', hkp, hS, m10, m13⟩, hk⟩ := hM
      refine hK (upd g 7 w'.heap.size) _ (fun i hi => by
              match i, hi with
              | 0, _ => rfl
              | 1, _ => rfl
              | 2, _ => rfl
              | 3, _ => rfl
              | 4, _ => rfl
              | 5, _ => rfl
              | 6, _ => rfl
              | 7, hi => exact absurd hi (by rw [hl]; decide)
              | 8, _ => rfl
              | 9, _ => rfl
              | 10, _ => rfl
              | 11, _ => rfl
              | 12, _ => rfl
              | 13, _ => rfl
              | _ + 14, _ => rfl) ⟨⟨D', hkp, hS.alloc _, ?_, ?_⟩, hk.make 7 hl _ (rowOk_z _ _ _ _)⟩
      · intro hx; rw [upd_other _ _ (by omega)] at hx; rw [upd_other _ _ (by omega)]; exact m10 hx
      · intro hx; rw [upd_other _ _ (by omega)] at hx; exact absurd hx (by rw [hc.not 13 14 hl (by kernel_rfl)]; decide)
    · intro l g a w' K hp hc hl hG hM hK
      have e468 : a.eval (.tmp 468) = .pointer (some ⟨E 0, 0, none⟩) := hG.of 468 0 (by kernel_rfl) (preAt hc 14 _ hp (by kernel_rfl))
      have hM' : (∃ D', (∀ i, i ≠ 7 → i ≠ 8 → D' i = D i) ∧ St w0 w' 6 E (upd B 0 (vals 130 21 D')) ∧ ((upd l 8 true) 10 = true → D' 7 = .slice (some ⟨g 4, 0, none⟩) 1 (n + 1)) ∧ ((upd l 8 true) 13 = true → D' 8 = .slice (some ⟨g 7, 0, none⟩) 0 (n + 1))) ∧ Mk w.drew w' (upd l 8 true) [4, 7] g (fun j => match j with
            | 4 => zrow 3 (n + 1) (.int .i64 0)
            | 7 => zrow 3 (n + 1) (.int .i64 0)
            | _ => zrow 0 0 undef) := ⟨hM.1, hM.2.done 8 (by decide)⟩
      clear hc hp hG hM
      unfold Oper.wp; generalize a.eval = ρ at *; go_simp; exact hK g w' (fun _ _ => rfl) hM'
    · intro l g a w' K hp hc hl hG hM hK
      have e476 : a.eval (.tmp 476) = .pointer (some ⟨E 0, 0, none⟩) := hG.of 476 8 (by kernel_rfl) (preAt hc 14 _ hp (by kernel_rfl))
      have hM' : (∃ D', (∀ i, i ≠ 7 → i ≠ 8 → D' i = D i) ∧ St w0 w' 6 E (upd B 0 (vals 130 21 D')) ∧ ((upd l 9 true) 10 = true → D' 7 = .slice (some ⟨g 4, 0, none⟩) 1 (n + 1)) ∧ ((upd l 9 true) 13 = true → D' 8 = .slice (some ⟨g 7, 0, none⟩) 0 (n + 1))) ∧ Mk w.drew w' (upd l 9 true) [4, 7] g (fun j => match j with
            | 4 => zrow 3 (n + 1) (.int .i64 0)
            | 7 => zrow 3 (n + 1) (.int .i64 0)
            | _ => zrow 0 0 undef) := ⟨hM.1, hM.2.done 9 (by decide)⟩
      clear hc hp hG hM
      unfold Oper.wp; generalize a.eval = ρ at *; go_simp; exact hK g w' (fun _ _ => rfl) hM'
    · intro l g a w' K hp hc hl hG hM hK
      have e477 : a.eval (.tmp 477) = .pointer (some ⟨E 0, 7, none⟩) := hG.of 477 9 (by kernel_rfl) (preAt hc 14 _ hp (by kernel_rfl))
      have e472 : a.eval (.tmp 472) = .slice (some ⟨g 4, 0, none⟩) 1 (n + 1) := hG.of 472 4 (by kernel_rfl) (preAt hc 14 _ hp (by kernel_rfl))
      obtain ⟨⟨D', hkp, hS, m10, m13⟩, hk⟩ := hM
      have hS' := hS.setVal (k := 0) (by omega) (upd_same _ _ _) 7 (.slice (some ⟨g 4, 0, none⟩) 1 (n + 1))
      have kc := hS.valAt (k := 0) (by omega) (upd_same _ _ _) (i := 7) (by omega)
      have kf := hS.frz 0 (by omega) 7
      rw [upd_upd] at hS'
      have hk' := hk.set (b := E 0) (hlt 0 (by omega)) 7 (.slice (some ⟨g 4, 0, none⟩) 1 (n + 1))
      have fin := hK g (w'.setCell ⟨E 0, 7, none⟩ (.slice (some ⟨g 4, 0, none⟩) 1 (n + 1))) (fun _ _ => rfl) ⟨⟨_, fun i q0 q1 => (upd_other _ _ q0).trans (hkp i q0 q1), hS', fun _ => upd_same _ _ _, fun hx => (upd_other _ _ (by omega)).trans (m13 (by rwa [upd_other _ _ (by omega)] at hx))⟩, hk'.done 10 (by decide)⟩
      clear hK hc hp hG hS hS' hk hk' m10 m13
      unfold Oper.wp; generalize a.eval = ρ at *; go_simp; exact fin
    · intro l g a w' K hp hc hl hG hM hK
      have e469 : a.eval (.tmp 469) = .pointer (some ⟨E 0, 0, none⟩) := hG.of 469 1 (by kernel_rfl) (preAt hc 14 _ hp (by kernel_rfl))
      have hM' : (∃ D', (∀ i, i ≠ 7 → i ≠ 8 → D' i = D i) ∧ St w0 w' 6 E (upd B 0 (vals 130 21 D')) ∧ ((upd l 11 true) 10 = true → D' 7 = .slice (some ⟨g 4, 0, none⟩) 1 (n + 1)) ∧ ((upd l 11 true) 13 = true → D' 8 = .slice (some ⟨g 7, 0, none⟩) 0 (n + 1))) ∧ Mk w.drew w' (upd l 11 true) [4, 7] g (fun j => match j with
            | 4 => zrow 3 (n + 1) (.int .i64 0)
            | 7 => zrow 3 (n + 1) (.int .i64 0)
            | _ => zrow 0 0 undef) := ⟨hM.1, hM.2.done 11 (by decide)⟩
      clear hc hp hG hM
      unfold Oper.wp; generalize a.eval = ρ at *; go_simp; exact hK g w' (fun _ _ => rfl) hM'
    · intro l g a w' K hp hc hl hG hM hK
      have e478 : a.eval (.tmp 478) = .pointer (some ⟨E 0, 0, none⟩) := hG.of 478 11 (by kernel_rfl) (preAt hc 14 _ hp (by kernel_rfl))
      have hM' : (∃ D', (∀ i, i ≠ 7 → i ≠ 8 → D' i = D i) ∧ St w0 w' 6 E (upd B 0 (vals 130 21 D')) ∧ ((upd l 12 true) 10 = true → D' 7 = .slice (some ⟨g 4, 0, none⟩) 1 (n + 1)) ∧ ((upd l 12 true) 13 = true → D' 8 = .slice (some ⟨g 7, 0, none⟩) 0 (n + 1))) ∧ Mk w.drew w' (upd l 12 true) [4, 7] g (fun j => match j with
            | 4 => zrow 3 (n + 1) (.int .i64 0)
            | 7 => zrow 3 (n + 1) (.int .i64 0)
            | _ => zrow 0 0 undef) := ⟨hM.1, hM.2.done 12 (by decide)⟩
      clear hc hp hG hM
      unfold Oper.wp; generalize a.eval = ρ at *; go_simp; exact hK g w' (fun _ _ => rfl) hM'
    · intro l g a w' K hp hc hl hG hM hK
      have e479 : a.eval (.tmp 479) = .pointer (some ⟨E 0, 8, none⟩) := hG.of 479 12 (by kernel_rfl) (preAt hc 14 _ hp (by kernel_rfl))
      have e475 : a.eval (.tmp 475) = .slice (some ⟨g 7, 0, none⟩) 0 (n + 1) := hG.of 475 7 (by kernel_rfl) (preAt hc 14 _ hp (by kernel_rfl))
      obtain ⟨⟨D', hkp, hS, m10, m13⟩, hk⟩ := hM
      have hS' := hS.setVal (k := 0) (by omega) (upd_same _ _ _) 8 (.slice (some ⟨g 7, 0, none⟩) 0 (n + 1))
      have kc := hS.valAt (k := 0) (by omega) (upd_same _ _ _) (i := 8) (by omega)
      have kf := hS.frz 0 (by omega) 8
      rw [upd_upd] at hS'
      have hk' := hk.set (b := E 0) (hlt 0 (by omega)) 8 (.slice (some ⟨g 7, 0, none⟩) 0 (n + 1))
      have fin := hK g (w'.setCell ⟨E 0, 8, none⟩ (.slice (some ⟨g 7, 0, none⟩) 0 (n + 1))) (fun _ _ => rfl) ⟨⟨_, fun i q0 q1 => (upd_other _ _ q1).trans (hkp i q0 q1), hS', fun hx => (upd_other _ _ (by omega)).trans (m10 (by rwa [upd_other _ _ (by omega)] at hx)), fun _ => upd_same _ _ _⟩, hk'.done 13 (by decide)⟩
      clear hK hc hp hG hS hS' hk hk' m10 m13
      unfold Oper.wp; generalize a.eval = ρ at *; go_simp; exact fin
  · intro l g x w' hl hv ho hM
    obtain ⟨⟨D', hkp, hS, m10, m13⟩, hk⟩ := hM
    have all : ∀ i, i < 14 → l i = true := hl
    obtain ⟨p4, r4⟩ := hk.row 4 (by decide) (all 4 (by omega))
    obtain ⟨p7, r7⟩ := hk.row 7 (by decide) (all 7 (by omega))
    have n4_7 : g 4 ≠ g 7 := fun e => absurd (hk.ne 4 (by decide) 7 (by decide) (all 4 (by omega)) (all 7 (by omega)) e) (by omega)
    have s0 := hS.add (g 4) _ r4 (by omega) (fun k hk => by
      have := hlt k (by omega)
      omega)
    have s1 := s0.add (g 7) _ r7 (by omega) (fun k hk => by
      by_cases e0 : k = 6
      · subst e0; rw [upd_same]; exact n4_7
      rw [upd_other _ _ e0]
      have := hlt k (by omega)
      omega)
    exact HQ.out x w' (g 4) (g 7) D' (fun s hs hw => ho s hs hw) s1 (m10 (all 10 (by omega))) (m13 (all 13 (by omega))) hkp
end Go.Proofs.YbulkexmzaGreat
