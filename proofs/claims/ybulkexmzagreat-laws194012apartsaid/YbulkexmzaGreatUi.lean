/-
  newDominance (38): region 29.
-/
import Derived.Test.YbulkexmzaGreatUh
namespace Go.Proofs.YbulkexmzaGreat
open Go.RowKit
set_option maxHeartbeats 4000000 in
set_option maxRecDepth 100000 in
theorem r29 {F : (Nat → Value) → Act} (hF : Fr 577 F) {w0 w : World} {E : Nat → Nat} {B : Nat → Lb} {D : Nat → Value} {f : Nat → Value} {Q : Exit → Act → World → Prop} {n L0 cq : Nat} {pq : Option Addr} (hn : n ≤ 100000) (hL0 : L0 ≤ 100000000) (h7 : f 7 = .int .i64 (n : Nat)) (h2 : f 2 = .slice pq L0 cq)
    (hS : St w0 w 14 E B) (hb0' : B 12 = vals 130 21 D) (h9 : f 9 = .pointer (some ⟨E 12, 0, none⟩))
    (hQ : ∀ x w' g4 g7 D', (∀ s, s < 577 → wrF (opsL (Ybaz.f38.body.bind (regAt 29))) 0 s = none → x s = f s) → St w0 w' 16 (upd (upd E 14 g4) 15 g7) (upd (upd (upd B 12 (vals 130 21 D')) 14 (zrow 3 (n + 1) (.int .i64 0))) 15 (zrow 3 L0 (.int .i64 0))) → D' 5 = .slice (some ⟨g4, 0, none⟩) (n + 1) (n + 1) → D' 6 = .slice (some ⟨g7, 0, none⟩) 0 L0 → (∀ i, i ≠ 5 → i ≠ 6 → D' i = D i) → Q .normal (F x) w') :
    ((Ybaz.f38.body.bind (regAt 29)).getD .skip).wp Ybaz.prog Q (F f) w := by
  conv => arg 2; whnf
  have hw : IntKind.i64.wrap ((n : Int) + 1) = (n : Int) + 1 := by rw [IntKind.wrap_i64]; omega
  have hlt : ∀ k, k < 14 → E k < w.drew.heap.size := fun k hk => (hS.row k hk).lt
  have hsz : w0.heap.size ≤ w.drew.heap.size := hS.since.size
  have HQ : Hid (∀ x w' g4 g7 D', (∀ s, s < 577 → wrF (opsL (Ybaz.f38.body.bind (regAt 29))) 0 s = none → x s = f s) → St w0 w' 16 (upd (upd E 14 g4) 15 g7) (upd (upd (upd B 12 (vals 130 21 D')) 14 (zrow 3 (n + 1) (.int .i64 0))) 15 (zrow 3 L0 (.int .i64 0))) → D' 5 = .slice (some ⟨g4, 0, none⟩) (n + 1) (n + 1) → D' 6 = .slice (some ⟨g7, 0, none⟩) 0 L0 → (∀ i, i ≠ 5 → i ≠ 6 → D' i = D i) → Q .normal (F x) w') := hQ
  have H0 : Hid (St w0 w.drew 14 E (upd B 12 (vals 130 21 D))) := hS.drew.congr (fun _ _ => rfl) (fun k _ => by by_cases e : k = 12; (subst e; rw [upd_same, hb0']); rw [upd_other _ _ e])
  clear hS hQ
  refine region_frm hF (γ := (Nat → Nat)) (fun i g => match i with
    | 0 => .pointer (some ⟨E 12, 0, none⟩)
    | 1 => .pointer (some ⟨E 12, 0, none⟩)
    | 2 => .int .i64 (n : Nat)
    | 3 => .int .i64 ((n : Int) + 1)
    | 4 => .slice (some ⟨g 4, 0, none⟩) (n + 1) (n + 1)
    | 5 => .slice pq L0 cq
    | 6 => .int .i64 ((L0 : Nat) : Int)
    | 7 => .slice (some ⟨g 7, 0, none⟩) 0 L0
    | 8 => .pointer (some ⟨E 12, 0, none⟩)
    | 9 => .pointer (some ⟨E 12, 5, none⟩)
    | 10 => undef
    | 11 => .pointer (some ⟨E 12, 0, none⟩)
    | 12 => .pointer (some ⟨E 12, 6, none⟩)
    | 13 => undef
    | _ => undef) (fun l g w' => (∃ D', (∀ i, i ≠ 5 → i ≠ 6 → D' i = D i) ∧ St w0 w' 14 E (upd B 12 (vals 130 21 D')) ∧ (l 10 = true → D' 5 = .slice (some ⟨g 4, 0, none⟩) (n + 1) (n + 1)) ∧ (l 13 = true → D' 6 = .slice (some ⟨g 7, 0, none⟩) 0 L0)) ∧ Mk w.drew w' l [4, 7] g (fun j => match j with
      | 4 => zrow 3 (n + 1) (.int .i64 0)
      | 7 => zrow 3 L0 (.int .i64 0)
      | _ => zrow 0 0 undef)) (fun _ => 0) (by kernel_rfl) (by kernel_rfl) ⟨⟨D, (fun _ _ _ => rfl), H0.out, fun h => (by cases h), fun h => (by cases h)⟩, Mk.start _ _ _ _⟩ ?_ ?_
  · refine ⟨?_, ?_, ?_, ?_, ?_, ?_, ?_, ?_, ?_, ?_, ?_, ?_, ?_, ?_, trivial⟩
    · intro l g a w' K hp hc hl hG hM hK
      have e9 : a.eval (.tmp 9) = .pointer (some ⟨E 12, 0, none⟩) := (hG.oldF hF 9 (by kernel_rfl) (by omega)).trans h9
      have hM' : (∃ D', (∀ i, i ≠ 5 → i ≠ 6 → D' i = D i) ∧ St w0 w' 14 E (upd B 12 (vals 130 21 D')) ∧ ((upd l 0 true) 10 = true → D' 5 = .slice (some ⟨g 4, 0, none⟩) (n + 1) (n + 1)) ∧ ((upd l 0 true) 13 = true → D' 6 = .slice (some ⟨g 7, 0, none⟩) 0 L0)) ∧ Mk w.drew w' (upd l 0 true) [4, 7] g (fun j => match j with
            | 4 => zrow 3 (n + 1) (.int .i64 0)
            | 7 => zrow 3 L0 (.int .i64 0)
            | _ => zrow 0 0 undef) := ⟨hM.1, hM.2.done 0 (by decide)⟩
      clear hc hp hG hM
      unfold Oper.wp; generalize a.eval = ρ at *; go_simp; exact hK g w' (fun _ _ => rfl) hM'
    · intro l g a w' K hp hc hl hG hM hK
      have e9 : a.eval (.tmp 9) = .pointer (some ⟨E 12, 0, none⟩) := (hG.oldF hF 9 (by kernel_rfl) (by omega)).trans h9
      have hM' : (∃ D', (∀ i, i ≠ 5 → i ≠ 6 → D' i = D i) ∧ St w0 w' 14 E (upd B 12 (vals 130 21 D')) ∧ ((upd l 1 true) 10 = true → D' 5 = .slice (some ⟨g 4, 0, none⟩) (n + 1) (n + 1)) ∧ ((upd l 1 true) 13 = true → D' 6 = .slice (some ⟨g 7, 0, none⟩) 0 L0)) ∧ Mk w.drew w' (upd l 1 true) [4, 7] g (fun j => match j with
            | 4 => zrow 3 (n + 1) (.int .i64 0)
            | 7 => zrow 3 L0 (.int .i64 0)
            | _ => zrow 0 0 undef) := ⟨hM.1, hM.2.done 1 (by decide)⟩
      clear hc hp hG hM
      unfold Oper.wp; generalize a.eval = ρ at *; go_simp; exact hK g w' (fun _ _ => rfl) hM'
    · intro l g a w' K hp hc hl hG hM hK
      have e7 : a.eval (.tmp 7) = .int .i64 (n : Nat) := (hG.oldF hF 7 (by kernel_rfl) (by omega)).trans h7
      have hM' : (∃ D', (∀ i, i ≠ 5 → i ≠ 6 → D' i = D i) ∧ St w0 w' 14 E (upd B 12 (vals 130 21 D')) ∧ ((upd l 2 true) 10 = true → D' 5 = .slice (some ⟨g 4, 0, none⟩) (n + 1) (n + 1)) ∧ ((upd l 2 true) 13 = true → D' 6 = .slice (some ⟨g 7, 0, none⟩) 0 L0)) ∧ Mk w.drew w' (upd l 2 true) [4, 7] g (fun j => match j with
            | 4 => zrow 3 (n + 1) (.int .i64 0)
            | 7 => zrow 3 L0 (.int .i64 0)
            | _ => zrow 0 0 undef) := ⟨hM.1, hM.2.done 2 (by decide)⟩
      clear hc hp hG hM
      unfold Oper.wp; generalize a.eval = ρ at *; go_simp; exact hK g w' (fun _ _ => rfl) hM'
    · intro l g a w' K hp hc hl hG hM hK
      have e130 : a.eval (.tmp 130) = .int .i64 (n : Nat) := hG.of 130 2 (by kernel_rfl) (preAt hc 14 _ hp (by kernel_rfl))
      have ec : ∀ v, a.eval (.const v) = v := fun _ => rfl
      have hM' : (∃ D', (∀ i, i ≠ 5 → i ≠ 6 → D' i = D i) ∧ St w0 w' 14 E (upd B 12 (vals 130 21 D')) ∧ ((upd l 3 true) 10 = true → D' 5 = .slice (some ⟨g 4, 0, none⟩) (n + 1) (n + 1)) ∧ ((upd l 3 true) 13 = true → D' 6 = .slice (some ⟨g 7, 0, none⟩) 0 L0)) ∧ Mk w.drew w' (upd l 3 true) [4, 7] g (fun j => match j with
            | 4 => zrow 3 (n + 1) (.int .i64 0)
            | 7 => zrow 3 L0 (.int .i64 0)
            | _ => zrow 0 0 undef) := ⟨hM.1, hM.2.done 3 (by decide)⟩
      clear hc hp hG hM
      unfold Oper.wp; generalize a.eval = ρ at *; go_simp; exact hK g w' (fun _ _ => rfl) hM'
    · intro l g a w' K hp hc hl hG hM hK
      have e131 : a.eval (.tmp 131) = .int .i64 ((n : Int) + 1) := hG.of 131 3 (by kernel_rfl) (preAt hc 14 _ hp (by kernel_rfl))
      refine op_make mty46 (.tmp 131) (.tmp 131) rfl (n + 1) (n + 1) e131 e131 (by omega) (by omega) ?_
      obtain ⟨⟨D', hkp, hS, m10, m13⟩, hk⟩ := hM
      refine hK (upd g 4 w'.heap.size) _ (fun i hi => by
              match i, hi with
              | 0, _ => rfl
              | 1, _ => rfl
              | 2, _ => rfl
              | 3, _ => rfl
              | 4, hi => exact absurd hi (by rw [hl]; decide)
              | 5, _ => rfl
              | 6, _ => rfl
              | 7, _ => rfl
              | 8, _ => rfl
              | 9, _ => rfl
              | 10, _ => rfl
              | 11, _ => rfl
              | 12, _ => rfl
              | 13, _ => rfl
              | _ + 14, _ => rfl) ⟨⟨D', hkp, hS.alloc _, ?_, ?_⟩, hk.make 4 hl _ (rowOk_z _ _ _ _)⟩
      · intro hx; rw [upd_other _ _ (by omega)] at hx; exact absurd hx (by rw [hc.not 10 14 hl (by kernel_rfl)]; decide)
      · intro hx; rw [upd_other _ _ (by omega)] at hx; rw [upd_other _ _ (by omega)]; exact m13 hx
    · intro l g a w' K hp hc hl hG hM hK
      have e2 : a.eval (.tmp 2) = .slice pq L0 cq := (hG.oldF hF 2 (by kernel_rfl) (by omega)).trans h2
      have hM' : (∃ D', (∀ i, i ≠ 5 → i ≠ 6 → D' i = D i) ∧ St w0 w' 14 E (upd B 12 (vals 130 21 D')) ∧ ((upd l 5 true) 10 = true → D' 5 = .slice (some ⟨g 4, 0, none⟩) (n + 1) (n + 1)) ∧ ((upd l 5 true) 13 = true → D' 6 = .slice (some ⟨g 7, 0, none⟩) 0 L0)) ∧ Mk w.drew w' (upd l 5 true) [4, 7] g (fun j => match j with
            | 4 => zrow 3 (n + 1) (.int .i64 0)
            | 7 => zrow 3 L0 (.int .i64 0)
            | _ => zrow 0 0 undef) := ⟨hM.1, hM.2.done 5 (by decide)⟩
      clear hc hp hG hM
      unfold Oper.wp; generalize a.eval = ρ at *; go_simp; exact hK g w' (fun _ _ => rfl) hM'
    · intro l g a w' K hp hc hl hG hM hK
      have e133 : a.eval (.tmp 133) = .slice pq L0 cq := hG.of 133 5 (by kernel_rfl) (preAt hc 14 _ hp (by kernel_rfl))
      have hM' : (∃ D', (∀ i, i ≠ 5 → i ≠ 6 → D' i = D i) ∧ St w0 w' 14 E (upd B 12 (vals 130 21 D')) ∧ ((upd l 6 true) 10 = true → D' 5 = .slice (some ⟨g 4, 0, none⟩) (n + 1) (n + 1)) ∧ ((upd l 6 true) 13 = true → D' 6 = .slice (some ⟨g 7, 0, none⟩) 0 L0)) ∧ Mk w.drew w' (upd l 6 true) [4, 7] g (fun j => match j with
            | 4 => zrow 3 (n + 1) (.int .i64 0)
            | 7 => zrow 3 L0 (.int .i64 0)
            | _ => zrow 0 0 undef) := ⟨hM.1, hM.2.done 6 (by decide)⟩
      clear hc hp hG hM
      unfold Oper.wp; generalize a.eval = ρ at *; go_simp; exact hK g w' (fun _ _ => rfl) hM'
    · intro l g a w' K hp hc hl hG hM hK
      have e134 : a.eval (.tmp 134) = .int .i64 ((L0 : Nat) : Int) := hG.of 134 6 (by kernel_rfl) (preAt hc 14 _ hp (by kernel_rfl))
      have ec : ∀ v, a.eval (.const v) = v := fun _ => rfl
      refine op_make mty46 (.const (.int .i64 0)) (.tmp 134) rfl 0 L0 rfl e134 (by omega) (by omega) ?_
      obtain ⟨⟨D', hkp, hS, m10, m13⟩, hk⟩ := hM
      refine hK (upd g 7 w'.heap.size) _ (fun i hi => by
              match i, hi with
              | 0, _ => rfl
              | 1, _ => rfl
              | 2, _ => rfl
              | 3, _ => rfl
              | 4, _ => rfl
              | 5, _ => rfl
              | 6, _ => rfl
              | 7, hi => exact absurd hi (by rw [hl]; decide)
              | 8, _ => rfl
              | 9, _ => rfl
              | 10, _ => rfl
              | 11, _ => rfl
              | 12, _ => rfl
              | 13, _ => rfl
              | _ + 14, _ => rfl) ⟨⟨D', hkp, hS.alloc _, ?_, ?_⟩, hk.make 7 hl _ (rowOk_z _ _ _ _)⟩
      · intro hx; rw [upd_other _ _ (by omega)] at hx; rw [upd_other _ _ (by omega)]; exact m10 hx
      · intro hx; rw [upd_other _ _ (by omega)] at hx; exact absurd hx (by rw [hc.not 13 14 hl (by kernel_rfl)]; decide)
    · intro l g a w' K hp hc hl hG hM hK
      have e128 : a.eval (.tmp 128) = .pointer (some ⟨E 12, 0, none⟩) := hG.of 128 0 (by kernel_rfl) (preAt hc 14 _ hp (by kernel_rfl))
      have hM' : (∃ D', (∀ i, i ≠ 5 → i ≠ 6 → D' i = D i) ∧ St w0 w' 14 E (upd B 12 (vals 130 21 D')) ∧ ((upd l 8 true) 10 = true → D' 5 = .slice (some ⟨g 4, 0, none⟩) (n + 1) (n + 1)) ∧ ((upd l 8 true) 13 = true → D' 6 = .slice (some ⟨g 7, 0, none⟩) 0 L0)) ∧ Mk w.drew w' (upd l 8 true) [4, 7] g (fun j => match j with
            | 4 => zrow 3 (n + 1) (.int .i64 0)
            | 7 => zrow 3 L0 (.int .i64 0)
            | _ => zrow 0 0 undef) := ⟨hM.1, hM.2.done 8 (by decide)⟩
      clear hc hp hG hM
      unfold Oper.wp; generalize a.eval = ρ at *; go_simp; exact hK g w' (fun _ _ => rfl) hM'
    · intro l g a w' K hp hc hl hG hM hK
      have e136 : a.eval (.tmp 136) = .pointer (some ⟨E 12, 0, none⟩) := hG.of 136 8 (by kernel_rfl) (preAt hc 14 _ hp (by kernel_rfl))
      have hM' : (∃ D', (∀ i, i ≠ 5 → i ≠ 6 → D' i = D i) ∧ St w0 w' 14 E (upd B 12 (vals 130 21 D')) ∧ ((upd l 9 true) 10 = true → D' 5 = .slice (some ⟨g 4, 0, none⟩) (n + 1) (n + 1)) ∧ ((upd l 9 true) 13 = true → D' 6 = .slice (some ⟨g 7, 0, none⟩) 0 L0)) ∧ Mk w.drew w' (upd l 9 true) [4, 7] g (fun j => match j with
            | 4 => zrow 3 (n + 1) (.int .i64 0)
            | 7 => zrow 3 L0 (.int .i64 0)
            | _ => zrow 0 0 undef) := ⟨hM.1, hM.2.done 9 (by decide)⟩
      clear hc hp hG hM
      unfold Oper.wp; generalize a.eval = ρ at *; go_simp; exact hK g w' (fun _ _ => rfl) hM'
    · intro l g a w' K hp hc hl hG hM hK
      have e137 : a.eval (.tmp 137) = .pointer (some ⟨E 12, 5, none⟩) := hG.of 137 9 (by kernel_rfl) (preAt hc 14 _ hp (by kernel_rfl))
      have e132 : a.eval (.tmp 132) = .slice (some ⟨g 4, 0, none⟩) (n + 1) (n + 1) := hG.of 132 4 (by kernel_rfl) (preAt hc 14 _ hp (by kernel_rfl))
      obtain ⟨⟨D', hkp, hS, m10, m13⟩, hk⟩ := hM
      have hS' := hS.setVal (k := 12) (by omega) (upd_same _ _ _) 5 (.slice (some ⟨g 4, 0, none⟩) (n + 1) (n + 1))
      have kc := hS.valAt (k := 12) (by omega) (upd_same _ _ _) (i := 5) (by omega)
      have kf := hS.frz 12 (by omega) 5
      rw [upd_upd] at hS'
      have hk' := hk.set (b := E 12) (hlt 12 (by omega)) 5 (.slice (some ⟨g 4, 0, none⟩) (n + 1) (n + 1))
      have fin := hK g (w'.setCell ⟨E 12, 5, none⟩ (.slice (some ⟨g 4, 0, none⟩) (n + 1) (n + 1))) (fun _ _ => rfl) ⟨⟨_, fun i q0 q1 => (upd_other _ _ q0).trans (hkp i q0 q1), hS', fun _ => upd_same _ _ _, fun hx => (upd_other _ _ (by omega)).trans (m13 (by rwa [upd_other _ _ (by omega)] at hx))⟩, hk'.done 10 (by decide)⟩
      clear hK hc hp hG hS hS' hk hk' m10 m13
      unfold Oper.wp; generalize a.eval = ρ at *; go_simp; exact fin
    · intro l g a w' K hp hc hl hG hM hK
      have e129 : a.eval (.tmp 129) = .pointer (some ⟨E 12, 0, none⟩) := hG.of 129 1 (by kernel_rfl) (preAt hc 14 _ hp (by kernel_rfl))
      have hM' : (∃ D', (∀ i, i ≠ 5 → i ≠ 6 → D' i = D i) ∧ St w0 w' 14 E (upd B 12 (vals 130 21 D')) ∧ ((upd l 11 true) 10 = true → D' 5 = .slice (some ⟨g 4, 0, none⟩) (n + 1) (n + 1)) ∧ ((upd l 11 true) 13 = true → D' 6 = .slice (some ⟨g 7, 0, none⟩) 0 L0)) ∧ Mk w.drew w' (upd l 11 true) [4, 7] g (fun j => match j with
            | 4 => zrow 3 (n + 1) (.int .i64 0)
            | 7 => zrow 3 L0 (.int .i64 0)
            | _ => zrow 0 0 undef) := ⟨hM.1, hM.2.done 11 (by decide)⟩
      clear hc hp hG hM
      unfold Oper.wp; generalize a.eval = ρ at *; go_simp; exact hK g w' (fun _ _ => rfl) hM'
    · intro l g a w' K hp hc hl hG hM hK
      have e138 : a.eval (.tmp 138) = .pointer (some ⟨E 12, 0, none⟩) := hG.of 138 11 (by kernel_rfl) (preAt hc 14 _ hp (by kernel_rfl))
      have hM' : (∃ D', (∀ i, i ≠ 5 → i ≠ 6 → D' i = D i) ∧ St w0 w' 14 E (upd B 12 (vals 130 21 D')) ∧ ((upd l 12 true) 10 = true → D' 5 = .slice (some ⟨g 4, 0, none⟩) (n + 1) (n + 1)) ∧ ((upd l 12 true) 13 = true → D' 6 = .slice (some ⟨g 7, 0, none⟩) 0 L0)) ∧ Mk w.drew w' (upd l 12 true) [4, 7] g (fun j => match j with
            | 4 => zrow 3 (n + 1) (.int .i64 0)
            | 7 => zrow 3 L0 (.int .i64 0)
            | _ => zrow 0 0 undef) := ⟨hM.1, hM.2.done 12 (by decide)⟩
      clear hc hp hG hM
      unfold Oper.wp; generalize a.eval = ρ at *; go_simp; exact hK g w' (fun _ _ => rfl) hM'
    · intro l g a w' K hp hc hl hG hM hK
      have e139 : a.eval (.tmp 139) = .pointer (some ⟨E 12, 6, none⟩) := hG.of 139 12 (by kernel_rfl) (preAt hc 14 _ hp (by kernel_rfl))
      have e135 : a.eval (.tmp 135) = .slice (some ⟨g 7, 0, none⟩) 0 L0 := hG.of 135 7 (by kernel_rfl) (preAt hc 14 _ hp (by kernel_rfl))
      obtain ⟨⟨D', hkp, hS, m10, m13⟩, hk⟩ := hM
      have hS' := hS.setVal (k := 12) (by omega) (upd_same _ _ _) 6 (.slice (some ⟨g 7, 0, none⟩) 0 L0)
      have kc := hS.valAt (k := 12) (by omega) (upd_same _ _ _) (i := 6) (by omega)
      have kf := hS.frz 12 (by omega) 6
      rw [upd_upd] at hS'
      have hk' := hk.set (b := E 12) (hlt 12 (by omega)) 6 (.slice (some ⟨g 7, 0, none⟩) 0 L0)
      have fin := hK g (w'.setCell ⟨E 12, 6, none⟩ (.slice (some ⟨g 7, 0, none⟩) 0 L0)) (fun _ _ => rfl) ⟨⟨_, fun i q0 q1 => (upd_other _ _ q1).trans (hkp i q0 q1), hS', fun hx => (upd_other _ _ (by omega)).trans (m10 (by rwa [upd_other _ _ (by omega)] at hx)), fun _ => upd_same _ _ _⟩, hk'.done 13 (by decide)⟩
      clear hK hc hp hG hS hS' hk hk' m10 m13
      unfold Oper.wp; generalize a.eval = ρ at *; go_simp; exact fin
  · intro l g x w' hl hv ho hM
    obtain ⟨⟨D', hkp, hS, m10, m13⟩, hk⟩ := hM
    have all : ∀ i, i < 14 → l i = true := hl
    obtain ⟨p4, r4⟩ := hk.row 4 (by decide) (all 4 (by omega))
    obtain ⟨p7, r7⟩ := hk.row 7 (by decide) (all 7 (by omega))
    have n4_7 : g 4 ≠ g 7 := fun e => absurd (hk.ne 4 (by decide) 7 (by decide) (all 4 (by omega)) (all 7 (by omega)) e) (by omega)
    have s0 := hS.add (g 4) _ r4 (by omega) (fun k hk => by
      have := hlt k (by omega)
      omega)
    have s1 := s0.add (g 7) _ r7 (by omega) (fun k hk => by
      by_cases e0 : k = 14
      · subst e0; rw [upd_same]; exact n4_7
      rw [upd_other _ _ e0]
      have := hlt k (by omega)
      omega)
    exact HQ.out x w' (g 4) (g 7) D' (fun s hs hw => ho s hs hw) s1 (m10 (all 10 (by omega))) (m13 (all 13 (by omega))) hkp
end Go.Proofs.YbulkexmzaGreat
