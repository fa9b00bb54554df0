/-
  Liveness (19): regions that make rows and lay them into the Live.
-/
import Derived.Test.YbulkexmzaGreatLf
namespace Go.Proofs.YbulkexmzaGreat
open Go.RowKit

theorem op_make75 {o : Oper} {a : Act} {w : World} {K : Act → World → Prop} {Q : Exit → Act → World → Prop} (l c : Operand) (ho : o.op = .makeSlice 75 l c) (el : a.eval l = .int .i64 ((0 : Nat) : Int)) (ec : a.eval c = .int .i64 ((0 : Nat) : Int))
    (hK : K (a.put o.dst (.slice (some ⟨w.heap.size, 0, none⟩) 0 0)) (w.alloc (.cells (madeCells #[.int .i64 0] 0) 88))) : o.wp Ybaz.prog a w K Q := by
  have hi : ∃ i z, Ybaz.prog.info? 88 = some i ∧ i.zero = some z := by
    have h : (Ybaz.prog.info? 88).bind (·.zero) ≠ none := by
      have : ((Ybaz.prog.info? 88).bind (·.zero)).isSome = true := by kernel_rfl
      intro e; rw [e] at this; cases this
    cases h1 : Ybaz.prog.info? 88 with
    | none => rw [h1] at h; exact absurd rfl h
    | some i =>
      rw [h1] at h
      cases h2 : i.zero with
      | none => exact absurd h2 h
      | some z => exact ⟨i, z, rfl, h2⟩
  obtain ⟨i, z, hi, hz⟩ := hi
  have hrun := run_make (P := Ybaz.prog) w 75 88 i z Ybaz.underlying75 hi hz .i64 .i64 0 0 (by omega) (by omega) (by omega) (by omega)
  have e0 : madeCells z.cells ((0 : Int).toNat * i.size) = madeCells #[.int .i64 0] 0 := by simp [madeCells]
  rw [e0] at hrun
  unfold Oper.wp
  obtain ⟨dst, op, type, pos, after, guard⟩ := o
  simp only at ho hK
  subst ho
  simp only [execOp, el, ec]
  have hrun' : (Instr.makeSlice 75 (.int .i64 ((0 : Nat) : Int)) (.int .i64 ((0 : Nat) : Int))).run Ybaz.prog w = .ok (.slice (some ⟨w.heap.size, 0, none⟩) 0 0) (w.alloc (.cells (madeCells #[.int .i64 0] 0) 88)) := hrun
  simp only [hrun', Sem.run_bind, Sem.run_pure]
  exact hK
set_option maxHeartbeats 4000000 in
set_option maxRecDepth 100000 in
theorem l59 {F : (Nat → Value) → Act} (hF : Fr 371 F) {w0 w : World} {E : Nat → Nat} {B : Nat → Lb} {D : Nat → Value} {f : Nat → Value} {Q : Exit → Act → World → Prop} {n : Nat} (hn : n ≤ 100000) (h11 : f 11 = .int .i64 (n : Nat)) (hb1 : B 1 = bx 74 (.pointer (some ⟨E 0, 0, none⟩)))
    (hS : St w0 w 4 E B) (hb0' : B 0 = vals 122 30 D) (h7 : f 7 = .pointer (some ⟨E 1, 0, none⟩))
    (hQ : ∀ x w' g4 g6 g8 D', (∀ s, s < 371 → wrF (opsL (Ybaz.f19.body.bind (regAt 59))) 0 s = none → x s = f s) → St w0 w' 7 (upd (upd (upd E 4 g4) 5 g6) 6 g8) (upd (upd (upd (upd B 0 (vals 122 30 D')) 4 (zrow 3 n (.int .i64 0))) 5 (zrow 3 n (.int .i64 0))) 6 (zrow 3 n (.int .i64 0))) → D' 9 = .slice (some ⟨g4, 0, none⟩) n n → D' 10 = .slice (some ⟨g6, 0, none⟩) n n → D' 11 = .slice (some ⟨g8, 0, none⟩) n n → (∀ i, i ≠ 9 → i ≠ 10 → i ≠ 11 → D' i = D i) → Q .normal (F x) w') :
    ((Ybaz.f19.body.bind (regAt 59)).getD .skip).wp Ybaz.prog Q (F f) w := by
  conv => arg 2; whnf
  have hlt : ∀ k, k < 4 → E k < w.drew.heap.size := fun k hk => (hS.row k hk).lt
  have hsz : w0.heap.size ≤ w.drew.heap.size := hS.since.size
  have HQ : Hid (∀ x w' g4 g6 g8 D', (∀ s, s < 371 → wrF (opsL (Ybaz.f19.body.bind (regAt 59))) 0 s = none → x s = f s) → St w0 w' 7 (upd (upd (upd E 4 g4) 5 g6) 6 g8) (upd (upd (upd (upd B 0 (vals 122 30 D')) 4 (zrow 3 n (.int .i64 0))) 5 (zrow 3 n (.int .i64 0))) 6 (zrow 3 n (.int .i64 0))) → D' 9 = .slice (some ⟨g4, 0, none⟩) n n → D' 10 = .slice (some ⟨g6, 0, none⟩) n n → D' 11 = .slice (some ⟨g8, 0, none⟩) n n → (∀ i, i ≠ 9 → i ≠ 10 → i ≠ 11 → D' i = D i) → Q .normal (F x) w') := hQ
  have H0 : Hid (St w0 w.drew 4 E (upd B 0 (vals 122 30 D))) := hS.drew.congr (fun _ _ => rfl) (fun k _ => by by_cases e : k = 0; (subst e; rw [upd_same, hb0']); rw [upd_other _ _ e])
  clear hS hQ
  refine region_frm hF (γ := (Nat → Nat)) (fun op9 g => match op9 with
    | 0 => .pointer (some ⟨E 0, 0, none⟩)
    | 1 => .pointer (some ⟨E 0, 0, none⟩)
    | 2 => .pointer (some ⟨E 0, 0, none⟩)
    | 3 => .int .i64 (n : Nat)
    | 4 => .slice (some ⟨g 4, 0, none⟩) n n
    | 5 => .int .i64 (n : Nat)
    | 6 => .slice (some ⟨g 6, 0, none⟩) n n
    | 7 => .int .i64 (n : Nat)
    | 8 => .slice (some ⟨g 8, 0, none⟩) n n
    | 9 => .pointer (some ⟨E 0, 0, none⟩)
    | 10 => .pointer (some ⟨E 0, 9, none⟩)
    | 11 => undef
    | 12 => .pointer (some ⟨E 0, 0, none⟩)
    | 13 => .pointer (some ⟨E 0, 10, none⟩)
    | 14 => undef
    | 15 => .pointer (some ⟨E 0, 0, none⟩)
    | 16 => .pointer (some ⟨E 0, 11, none⟩)
    | 17 => undef
    | _ => undef) (fun l g w' => (∃ D', (∀ i, i ≠ 9 → i ≠ 10 → i ≠ 11 → D' i = D i) ∧ St w0 w' 4 E (upd B 0 (vals 122 30 D')) ∧ (l 11 = true → D' 9 = .slice (some ⟨g 4, 0, none⟩) n n) ∧ (l 14 = true → D' 10 = .slice (some ⟨g 6, 0, none⟩) n n) ∧ (l 17 = true → D' 11 = .slice (some ⟨g 8, 0, none⟩) n n)) ∧ Mk w.drew w' l [4, 6, 8] g (fun j => match j with
      | 4 => zrow 3 n (.int .i64 0)
      | 6 => zrow 3 n (.int .i64 0)
      | 8 => zrow 3 n (.int .i64 0)
      | _ => zrow 0 0 undef)) (fun _ => 0) (by kernel_rfl) (by kernel_rfl) ⟨⟨D, (fun _ _ _ _ => rfl), H0.out, fun h => (by cases h), fun h => (by cases h), fun h => (by cases h)⟩, Mk.start _ _ _ _⟩ ?_ ?_
  · refine ⟨?_, ?_, ?_, ?_, ?_, ?_, ?_, ?_, ?_, ?_, ?_, ?_, ?_, ?_, ?_, ?_, ?_, ?_, trivial⟩
    · intro l g a w' K hp hc hl hG hM hK
      have e7 : a.eval (.tmp 7) = .pointer (some ⟨E 1, 0, none⟩) := (hG.oldF hF 7 (by kernel_rfl) (by omega)).trans h7
      have hM' : (∃ D', (∀ i, i ≠ 9 → i ≠ 10 → i ≠ 11 → D' i = D i) ∧ St w0 w' 4 E (upd B 0 (vals 122 30 D')) ∧ ((upd l 0 true) 11 = true → D' 9 = .slice (some ⟨g 4, 0, none⟩) n n) ∧ ((upd l 0 true) 14 = true → D' 10 = .slice (some ⟨g 6, 0, none⟩) n n) ∧ ((upd l 0 true) 17 = true → D' 11 = .slice (some ⟨g 8, 0, none⟩) n n)) ∧ Mk w.drew w' (upd l 0 true) [4, 6, 8] g (fun j => match j with
            | 4 => zrow 3 n (.int .i64 0)
            | 6 => zrow 3 n (.int .i64 0)
            | 8 => zrow 3 n (.int .i64 0)
            | _ => zrow 0 0 undef) := ⟨hM.1, hM.2.done 0 (by decide)⟩
      have hM9 := hM'
      obtain ⟨⟨D9, hq9, hS9, hr9⟩, hk9⟩ := hM9
      have kb := hS9.box (k := 1) (by omega) (show upd B 0 _ 1 = _ by rw [upd_other _ _ (by omega)]; exact hb1)
      clear hS9 hq9 hr9 hk9
      clear hc hp hG hM
      unfold Oper.wp; generalize a.eval = ρ at *; go_simp; exact hK g w' (fun _ _ => rfl) hM'
    · intro l g a w' K hp hc hl hG hM hK
      have e7 : a.eval (.tmp 7) = .pointer (some ⟨E 1, 0, none⟩) := (hG.oldF hF 7 (by kernel_rfl) (by omega)).trans h7
      have hM' : (∃ D', (∀ i, i ≠ 9 → i ≠ 10 → i ≠ 11 → D' i = D i) ∧ St w0 w' 4 E (upd B 0 (vals 122 30 D')) ∧ ((upd l 1 true) 11 = true → D' 9 = .slice (some ⟨g 4, 0, none⟩) n n) ∧ ((upd l 1 true) 14 = true → D' 10 = .slice (some ⟨g 6, 0, none⟩) n n) ∧ ((upd l 1 true) 17 = true → D' 11 = .slice (some ⟨g 8, 0, none⟩) n n)) ∧ Mk w.drew w' (upd l 1 true) [4, 6, 8] g (fun j => match j with
            | 4 => zrow 3 n (.int .i64 0)
            | 6 => zrow 3 n (.int .i64 0)
            | 8 => zrow 3 n (.int .i64 0)
            | _ => zrow 0 0 undef) := ⟨hM.1, hM.2.done 1 (by decide)⟩
      have hM9 := hM'
      obtain ⟨⟨D9, hq9, hS9, hr9⟩, hk9⟩ := hM9
      have kb := hS9.box (k := 1) (by omega) (show upd B 0 _ 1 = _ by rw [upd_other _ _ (by omega)]; exact hb1)
      clear hS9 hq9 hr9 hk9
      clear hc hp hG hM
      unfold Oper.wp; generalize a.eval = ρ at *; go_simp; exact hK g w' (fun _ _ => rfl) hM'
    · intro l g a w' K hp hc hl hG hM hK
      have e7 : a.eval (.tmp 7) = .pointer (some ⟨E 1, 0, none⟩) := (hG.oldF hF 7 (by kernel_rfl) (by omega)).trans h7
      have hM' : (∃ D', (∀ i, i ≠ 9 → i ≠ 10 → i ≠ 11 → D' i = D i) ∧ St w0 w' 4 E (upd B 0 (vals 122 30 D')) ∧ ((upd l 2 true) 11 = true → D' 9 = .slice (some ⟨g 4, 0, none⟩) n n) ∧ ((upd l 2 true) 14 = true → D' 10 = .slice (some ⟨g 6, 0, none⟩) n n) ∧ ((upd l 2 true) 17 = true → D' 11 = .slice (some ⟨g 8, 0, none⟩) n n)) ∧ Mk w.drew w' (upd l 2 true) [4, 6, 8] g (fun j => match j with
            | 4 => zrow 3 n (.int .i64 0)
            | 6 => zrow 3 n (.int .i64 0)
            | 8 => zrow 3 n (.int .i64 0)
            | _ => zrow 0 0 undef) := ⟨hM.1, hM.2.done 2 (by decide)⟩
      have hM9 := hM'
      obtain ⟨⟨D9, hq9, hS9, hr9⟩, hk9⟩ := hM9
      have kb := hS9.box (k := 1) (by omega) (show upd B 0 _ 1 = _ by rw [upd_other _ _ (by omega)]; exact hb1)
      clear hS9 hq9 hr9 hk9
      clear hc hp hG hM
      unfold Oper.wp; generalize a.eval = ρ at *; go_simp; exact hK g w' (fun _ _ => rfl) hM'
    · intro l g a w' K hp hc hl hG hM hK
      have e11 : a.eval (.tmp 11) = .int .i64 (n : Nat) := (hG.oldF hF 11 (by kernel_rfl) (by omega)).trans h11
      have hM' : (∃ D', (∀ i, i ≠ 9 → i ≠ 10 → i ≠ 11 → D' i = D i) ∧ St w0 w' 4 E (upd B 0 (vals 122 30 D')) ∧ ((upd l 3 true) 11 = true → D' 9 = .slice (some ⟨g 4, 0, none⟩) n n) ∧ ((upd l 3 true) 14 = true → D' 10 = .slice (some ⟨g 6, 0, none⟩) n n) ∧ ((upd l 3 true) 17 = true → D' 11 = .slice (some ⟨g 8, 0, none⟩) n n)) ∧ Mk w.drew w' (upd l 3 true) [4, 6, 8] g (fun j => match j with
            | 4 => zrow 3 n (.int .i64 0)
            | 6 => zrow 3 n (.int .i64 0)
            | 8 => zrow 3 n (.int .i64 0)
            | _ => zrow 0 0 undef) := ⟨hM.1, hM.2.done 3 (by decide)⟩
      clear hc hp hG hM
      unfold Oper.wp; generalize a.eval = ρ at *; go_simp; exact hK g w' (fun _ _ => rfl) hM'
    · intro l g a w' K hp hc hl hG hM hK
      have e303 : a.eval (.tmp 303) = .int .i64 (n : Nat) := hG.of 303 3 (by kernel_rfl) (preAt hc 18 _ hp (by kernel_rfl))
      refine op_make mty46 (.tmp 303) (.tmp 303) rfl n n e303 e303 (by omega) (by omega) ?_
      obtain ⟨⟨D', hkp, hS, m11, m14, m17⟩, hk⟩ := hM
      refine hK (upd g 4 w'.heap.size) _ (fun i hi => by
              match i, hi with
              | 0, _ => rfl
              | 1, _ => rfl
              | 2, _ => rfl
              | 3, _ => rfl
              | 4, hi => exact absurd hi (by rw [hl]; decide)
              | 5, _ => rfl
              | 6, _ => rfl
              | 7, _ => rfl
              | 8, _ => rfl
              | 9, _ => rfl
              | 10, _ => rfl
              | 11, _ => rfl
              | 12, _ => rfl
              | 13, _ => rfl
              | 14, _ => rfl
              | 15, _ => rfl
              | 16, _ => rfl
              | 17, _ => rfl
              | _ + 18, _ => rfl) ⟨⟨D', hkp, hS.alloc _, ?_, ?_, ?_⟩, hk.make 4 hl _ (rowOk_z _ _ _ _)⟩
      · intro hx; rw [upd_other _ _ (by omega)] at hx; exact absurd hx (by rw [hc.not 11 18 hl (by kernel_rfl)]; decide)
      · intro hx; rw [upd_other _ _ (by omega)] at hx; rw [upd_other _ _ (by omega)]; exact m14 hx
      · intro hx; rw [upd_other _ _ (by omega)] at hx; rw [upd_other _ _ (by omega)]; exact m17 hx
    · intro l g a w' K hp hc hl hG hM hK
      have e11 : a.eval (.tmp 11) = .int .i64 (n : Nat) := (hG.oldF hF 11 (by kernel_rfl) (by omega)).trans h11
      have hM' : (∃ D', (∀ i, i ≠ 9 → i ≠ 10 → i ≠ 11 → D' i = D i) ∧ St w0 w' 4 E (upd B 0 (vals 122 30 D')) ∧ ((upd l 5 true) 11 = true → D' 9 = .slice (some ⟨g 4, 0, none⟩) n n) ∧ ((upd l 5 true) 14 = true → D' 10 = .slice (some ⟨g 6, 0, none⟩) n n) ∧ ((upd l 5 true) 17 = true → D' 11 = .slice (some ⟨g 8, 0, none⟩) n n)) ∧ Mk w.drew w' (upd l 5 true) [4, 6, 8] g (fun j => match j with
            | 4 => zrow 3 n (.int .i64 0)
            | 6 => zrow 3 n (.int .i64 0)
            | 8 => zrow 3 n (.int .i64 0)
            | _ => zrow 0 0 undef) := ⟨hM.1, hM.2.done 5 (by decide)⟩
      clear hc hp hG hM
      unfold Oper.wp; generalize a.eval = ρ at *; go_simp; exact hK g w' (fun _ _ => rfl) hM'
    · intro l g a w' K hp hc hl hG hM hK
      have e305 : a.eval (.tmp 305) = .int .i64 (n : Nat) := hG.of 305 5 (by kernel_rfl) (preAt hc 18 _ hp (by kernel_rfl))
      refine op_make mty46 (.tmp 305) (.tmp 305) rfl n n e305 e305 (by omega) (by omega) ?_
      obtain ⟨⟨D', hkp, hS, m11, m14, m17⟩, hk⟩ := hM
      refine hK (upd g 6 w'.heap.size) _ (fun i hi => by
              match i, hi with
              | 0, _ => rfl
              | 1, _ => rfl
              | 2, _ => rfl
              | 3, _ => rfl
              | 4, _ => rfl
              | 5, _ => rfl
              | 6, hi => exact absurd hi (by rw [hl]; decide)
              | 7, _ => rfl
              | 8, _ => rfl
              | 9, _ => rfl
              | 10, _ => rfl
              | 11, _ => rfl
              | 12, _ => rfl
              | 13, _ => rfl
              | 14, _ => rfl
              | 15, _ => rfl
              | 16, _ => rfl
              | 17, _ => rfl
              | _ + 18, _ => rfl) ⟨⟨D', hkp, hS.alloc _, ?_, ?_, ?_⟩, hk.make 6 hl _ (rowOk_z _ _ _ _)⟩
      · intro hx; rw [upd_other _ _ (by omega)] at hx; rw [upd_other _ _ (by omega)]; exact m11 hx
      · intro hx; rw [upd_other _ _ (by omega)] at hx; exact absurd hx (by rw [hc.not 14 18 hl (by kernel_rfl)]; decide)
      · intro hx; rw [upd_other _ _ (by omega)] at hx; rw [upd_other _ _ (by omega)]; exact m17 hx
    · intro l g a w' K hp hc hl hG hM hK
      have e11 : a.eval (.tmp 11) = .int .i64 (n : Nat) := (hG.oldF hF 11 (by kernel_rfl) (by omega)).trans h11
      have hM' : (∃ D', (∀ i, i ≠ 9 → i ≠ 10 → i ≠ 11 → D' i = D i) ∧ St w0 w' 4 E (upd B 0 (vals 122 30 D')) ∧ ((upd l 7 true) 11 = true → D' 9 = .slice (some ⟨g 4, 0, none⟩) n n) ∧ ((upd l 7 true) 14 = true → D' 10 = .slice (some ⟨g 6, 0, none⟩) n n) ∧ ((upd l 7 true) 17 = true → D' 11 = .slice (some ⟨g 8, 0, none⟩) n n)) ∧ Mk w.drew w' (upd l 7 true) [4, 6, 8] g (fun j => match j with
            | 4 => zrow 3 n (.int .i64 0)
            | 6 => zrow 3 n (.int .i64 0)
            | 8 => zrow 3 n (.int .i64 0)
            | _ => zrow 0 0 undef) := ⟨hM.1, hM.2.done 7 (by decide)⟩
      clear hc hp hG hM
      unfold Oper.wp; generalize a.eval = ρ at *; go_simp; exact hK g w' (fun _ _ => rfl) hM'
    · intro l g a w' K hp hc hl hG hM hK
      have e307 : a.eval (.tmp 307) = .int .i64 (n : Nat) := hG.of 307 7 (by kernel_rfl) (preAt hc 18 _ hp (by kernel_rfl))
      refine op_make mty46 (.tmp 307) (.tmp 307) rfl n n e307 e307 (by omega) (by omega) ?_
      obtain ⟨⟨D', hkp, hS, m11, m14, m17⟩, hk⟩ := hM
      refine hK (upd g 8 w'.heap.size) _ (fun i hi => by
              match i, hi with
              | 0, _ => rfl
              | 1, _ => rfl
              | 2, _ => rfl
              | 3, _ => rfl
              | 4, _ => rfl
              | 5, _ => rfl
              | 6, _ => rfl
              | 7, _ => rfl
              | 8, hi => exact absurd hi (by rw [hl]; decide)
              | 9, _ => rfl
              | 10, _ => rfl
              | 11, _ => rfl
              | 12, _ => rfl
              | 13, _ => rfl
              | 14, _ => rfl
              | 15, _ => rfl
              | 16, _ => rfl
              | 17, _ => rfl
              | _ + 18, _ => rfl) ⟨⟨D', hkp, hS.alloc _, ?_, ?_, ?_⟩, hk.make 8 hl _ (rowOk_z _ _ _ _)⟩
      · intro hx; rw [upd_other _ _ (by omega)] at hx; rw [upd_other _ _ (by omega)]; exact m11 hx
      · intro hx; rw [upd_other _ _ (by omega)] at hx; rw [upd_other _ _ (by omega)]; exact m14 hx
      · intro hx; rw [upd_other _ _ (by omega)] at hx; exact absurd hx (by rw [hc.not 17 18 hl (by kernel_rfl)]; decide)
    · intro l g a w' K hp hc hl hG hM hK
      have e300 : a.eval (.tmp 300) = .pointer (some ⟨E 0, 0, none⟩) := hG.of 300 0 (by kernel_rfl) (preAt hc 18 _ hp (by kernel_rfl))
      have hM' : (∃ D', (∀ i, i ≠ 9 → i ≠ 10 → i ≠ 11 → D' i = D i) ∧ St w0 w' 4 E (upd B 0 (vals 122 30 D')) ∧ ((upd l 9 true) 11 = true → D' 9 = .slice (some ⟨g 4, 0, none⟩) n n) ∧ ((upd l 9 true) 14 = true → D' 10 = .slice (some ⟨g 6, 0, none⟩) n n) ∧ ((upd l 9 true) 17 = true → D' 11 = .slice (some ⟨g 8, 0, none⟩) n n)) ∧ Mk w.drew w' (upd l 9 true) [4, 6, 8] g (fun j => match j with
            | 4 => zrow 3 n (.int .i64 0)
            | 6 => zrow 3 n (.int .i64 0)
            | 8 => zrow 3 n (.int .i64 0)
            | _ => zrow 0 0 undef) := ⟨hM.1, hM.2.done 9 (by decide)⟩
      clear hc hp hG hM
      unfold Oper.wp; generalize a.eval = ρ at *; go_simp; exact hK g w' (fun _ _ => rfl) hM'
    · intro l g a w' K hp hc hl hG hM hK
      have e309 : a.eval (.tmp 309) = .pointer (some ⟨E 0, 0, none⟩) := hG.of 309 9 (by kernel_rfl) (preAt hc 18 _ hp (by kernel_rfl))
      have hM' : (∃ D', (∀ i, i ≠ 9 → i ≠ 10 → i ≠ 11 → D' i = D i) ∧ St w0 w' 4 E (upd B 0 (vals 122 30 D')) ∧ ((upd l 10 true) 11 = true → D' 9 = .slice (some ⟨g 4, 0, none⟩) n n) ∧ ((upd l 10 true) 14 = true → D' 10 = .slice (some ⟨g 6, 0, none⟩) n n) ∧ ((upd l 10 true) 17 = true → D' 11 = .slice (some ⟨g 8, 0, none⟩) n n)) ∧ Mk w.drew w' (upd l 10 true) [4, 6, 8] g (fun j => match j with
            | 4 => zrow 3 n (.int .i64 0)
            | 6 => zrow 3 n (.int .i64 0)
            | 8 => zrow 3 n (.int .i64 0)
            | _ => zrow 0 0 undef) := ⟨hM.1, hM.2.done 10 (by decide)⟩
      clear hc hp hG hM
      unfold Oper.wp; generalize a.eval = ρ at *; go_simp; exact hK g w' (fun _ _ => rfl) hM'
    · intro l g a w' K hp hc hl hG hM hK
      have e310 : a.eval (.tmp 310) = .pointer (some ⟨E 0, 9, none⟩) := hG.of 310 10 (by kernel_rfl) (preAt hc 18 _ hp (by kernel_rfl))
      have e304 : a.eval (.tmp 304) = .slice (some ⟨g 4, 0, none⟩) n n := hG.of 304 4 (by kernel_rfl) (preAt hc 18 _ hp (by kernel_rfl))
      obtain ⟨⟨D', hkp, hS, m11, m14, m17⟩, hk⟩ := hM
      have hS' := hS.setVal (k := 0) (by omega) (upd_same _ _ _) 9 (.slice (some ⟨g 4, 0, none⟩) n n)
      have kc := hS.valAt (k := 0) (by omega) (upd_same _ _ _) (i := 9) (by omega)
      have kf := hS.frz 0 (by omega) 9
      rw [upd_upd] at hS'
      have hk' := hk.set (b := E 0) (hlt 0 (by omega)) 9 (.slice (some ⟨g 4, 0, none⟩) n n)
      have fin := hK g (w'.setCell ⟨E 0, 9, none⟩ (.slice (some ⟨g 4, 0, none⟩) n n)) (fun _ _ => rfl) ⟨⟨_, fun i q0 q1 q2 => (upd_other _ _ q0).trans (hkp i q0 q1 q2), hS', fun _ => upd_same _ _ _, fun hx => (upd_other _ _ (by omega)).trans (m14 (by rwa [upd_other _ _ (by omega)] at hx)), fun hx => (upd_other _ _ (by omega)).trans (m17 (by rwa [upd_other _ _ (by omega)] at hx))⟩, hk'.done 11 (by decide)⟩
      clear hK hc hp hG hS hS' hk hk' m11 m14 m17
      unfold Oper.wp; generalize a.eval = ρ at *; go_simp; exact fin
    · intro l g a w' K hp hc hl hG hM hK
      have e301 : a.eval (.tmp 301) = .pointer (some ⟨E 0, 0, none⟩) := hG.of 301 1 (by kernel_rfl) (preAt hc 18 _ hp (by kernel_rfl))
      have hM' : (∃ D', (∀ i, i ≠ 9 → i ≠ 10 → i ≠ 11 → D' i = D i) ∧ St w0 w' 4 E (upd B 0 (vals 122 30 D')) ∧ ((upd l 12 true) 11 = true → D' 9 = .slice (some ⟨g 4, 0, none⟩) n n) ∧ ((upd l 12 true) 14 = true → D' 10 = .slice (some ⟨g 6, 0, none⟩) n n) ∧ ((upd l 12 true) 17 = true → D' 11 = .slice (some ⟨g 8, 0, none⟩) n n)) ∧ Mk w.drew w' (upd l 12 true) [4, 6, 8] g (fun j => match j with
            | 4 => zrow 3 n (.int .i64 0)
            | 6 => zrow 3 n (.int .i64 0)
            | 8 => zrow 3 n (.int .i64 0)
            | _ => zrow 0 0 undef) := ⟨hM.1, hM.2.done 12 (by decide)⟩
      clear hc hp hG hM
      unfold Oper.wp; generalize a.eval = ρ at *; go_simp; exact hK g w' (fun _ _ => rfl) hM'
    · intro l g a w' K hp hc hl hG hM hK
      have e311 : a.eval (.tmp 311) = .pointer (some ⟨E 0, 0, none⟩) := hG.of 311 12 (by kernel_rfl) (preAt hc 18 _ hp (by kernel_rfl))
      have hM' : (∃ D', (∀ i, i ≠ 9 → i ≠ 10 → i ≠ 11 → D' i = D i) ∧ St w0 w' 4 E (upd B 0 (vals 122 30 D')) ∧ ((upd l 13 true) 11 = true → D' 9 = .slice (some ⟨g 4, 0, none⟩) n n) ∧ ((upd l 13 true) 14 = true → D' 10 = .slice (some ⟨g 6, 0, none⟩) n n) ∧ ((upd l 13 true) 17 = true → D' 11 = .slice (some ⟨g 8, 0, none⟩) n n)) ∧ Mk w.drew w' (upd l 13 true) [4, 6, 8] g (fun j => match j with
            | 4 => zrow 3 n (.int .i64 0)
            | 6 => zrow 3 n (.int .i64 0)
            | 8 => zrow 3 n (.int .i64 0)
            | _ => zrow 0 0 undef) := ⟨hM.1, hM.2.done 13 (by decide)⟩
      clear hc hp hG hM
      unfold Oper.wp; generalize a.eval = ρ at *; go_simp; exact hK g w' (fun _ _ => rfl) hM'
    · intro l g a w' K hp hc hl hG hM hK
      have e312 : a.eval (.tmp 312) = .pointer (some ⟨E 0, 10, none⟩) := hG.of 312 13 (by kernel_rfl) (preAt hc 18 _ hp (by kernel_rfl))
      have e306 : a.eval (.tmp 306) = .slice (some ⟨g 6, 0, none⟩) n n := hG.of 306 6 (by kernel_rfl) (preAt hc 18 _ hp (by kernel_rfl))
      obtain ⟨⟨D', hkp, hS, m11, m14, m17⟩, hk⟩ := hM
      have hS' := hS.setVal (k := 0) (by omega) (upd_same _ _ _) 10 (.slice (some ⟨g 6, 0, none⟩) n n)
      have kc := hS.valAt (k := 0) (by omega) (upd_same _ _ _) (i := 10) (by omega)
      have kf := hS.frz 0 (by omega) 10
      rw [upd_upd] at hS'
      have hk' := hk.set (b := E 0) (hlt 0 (by omega)) 10 (.slice (some ⟨g 6, 0, none⟩) n n)
      have fin := hK g (w'.setCell ⟨E 0, 10, none⟩ (.slice (some ⟨g 6, 0, none⟩) n n)) (fun _ _ => rfl) ⟨⟨_, fun i q0 q1 q2 => (upd_other _ _ q1).trans (hkp i q0 q1 q2), hS', fun hx => (upd_other _ _ (by omega)).trans (m11 (by rwa [upd_other _ _ (by omega)] at hx)), fun _ => upd_same _ _ _, fun hx => (upd_other _ _ (by omega)).trans (m17 (by rwa [upd_other _ _ (by omega)] at hx))⟩, hk'.done 14 (by decide)⟩
      clear hK hc hp hG hS hS' hk hk' m11 m14 m17
      unfold Oper.wp; generalize a.eval = ρ at *; go_simp; exact fin
    · intro l g a w' K hp hc hl hG hM hK
      have e302 : a.eval (.tmp 302) = .pointer (some ⟨E 0, 0, none⟩) := hG.of 302 2 (by kernel_rfl) (preAt hc 18 _ hp (by kernel_rfl))
      have hM' : (∃ D', (∀ i, i ≠ 9 → i ≠ 10 → i ≠ 11 → D' i = D i) ∧ St w0 w' 4 E (upd B 0 (vals 122 30 D')) ∧ ((upd l 15 true) 11 = true → D' 9 = .slice (some ⟨g 4, 0, none⟩) n n) ∧ ((upd l 15 true) 14 = true → D' 10 = .slice (some ⟨g 6, 0, none⟩) n n) ∧ ((upd l 15 true) 17 = true → D' 11 = .slice (some ⟨g 8, 0, none⟩) n n)) ∧ Mk w.drew w' (upd l 15 true) [4, 6, 8] g (fun j => match j with
            | 4 => zrow 3 n (.int .i64 0)
            | 6 => zrow 3 n (.int .i64 0)
            | 8 => zrow 3 n (.int .i64 0)
            | _ => zrow 0 0 undef) := ⟨hM.1, hM.2.done 15 (by decide)⟩
      clear hc hp hG hM
      unfold Oper.wp; generalize a.eval = ρ at *; go_simp; exact hK g w' (fun _ _ => rfl) hM'
    · intro l g a w' K hp hc hl hG hM hK
      have e313 : a.eval (.tmp 313) = .pointer (some ⟨E 0, 0, none⟩) := hG.of 313 15 (by kernel_rfl) (preAt hc 18 _ hp (by kernel_rfl))
      have hM' : (∃ D', (∀ i, i ≠ 9 → i ≠ 10 → i ≠ 11 → D' i = D i) ∧ St w0 w' 4 E (upd B 0 (vals 122 30 D')) ∧ ((upd l 16 true) 11 = true → D' 9 = .slice (some ⟨g 4, 0, none⟩) n n) ∧ ((upd l 16 true) 14 = true → D' 10 = .slice (some ⟨g 6, 0, none⟩) n n) ∧ ((upd l 16 true) 17 = true → D' 11 = .slice (some ⟨g 8, 0, none⟩) n n)) ∧ Mk w.drew w' (upd l 16 true) [4, 6, 8] g (fun j => match j with
            | 4 => zrow 3 n (.int .i64 0)
            | 6 => zrow 3 n (.int .i64 0)
            | 8 => zrow 3 n (.int .i64 0)
            | _ => zrow 0 0 undef) := ⟨hM.1, hM.2.done 16 (by decide)⟩
      clear hc hp hG hM
      unfold Oper.wp; generalize a.eval = ρ at *; go_simp; exact hK g w' (fun _ _ => rfl) hM'
    · intro l g a w' K hp hc hl hG hM hK
      have e314 : a.eval (.tmp 314) = .pointer (some ⟨E 0, 11, none⟩) := hG.of 314 16 (by kernel_rfl) (preAt hc 18 _ hp (by kernel_rfl))
      have e308 : a.eval (.tmp 308) = .slice (some ⟨g 8, 0, none⟩) n n := hG.of 308 8 (by kernel_rfl) (preAt hc 18 _ hp (by kernel_rfl))
      obtain ⟨⟨D', hkp, hS, m11, m14, m17⟩, hk⟩ := hM
      have hS' := hS.setVal (k := 0) (by omega) (upd_same _ _ _) 11 (.slice (some ⟨g 8, 0, none⟩) n n)
      have kc := hS.valAt (k := 0) (by omega) (upd_same _ _ _) (i := 11) (by omega)
      have kf := hS.frz 0 (by omega) 11
      rw [upd_upd] at hS'
      have hk' := hk.set (b := E 0) (hlt 0 (by omega)) 11 (.slice (some ⟨g 8, 0, none⟩) n n)
      have fin := hK g (w'.setCell ⟨E 0, 11, none⟩ (.slice (some ⟨g 8, 0, none⟩) n n)) (fun _ _ => rfl) ⟨⟨_, fun i q0 q1 q2 => (upd_other _ _ q2).trans (hkp i q0 q1 q2), hS', fun hx => (upd_other _ _ (by omega)).trans (m11 (by rwa [upd_other _ _ (by omega)] at hx)), fun hx => (upd_other _ _ (by omega)).trans (m14 (by rwa [upd_other _ _ (by omega)] at hx)), fun _ => upd_same _ _ _⟩, hk'.done 17 (by decide)⟩
      clear hK hc hp hG hS hS' hk hk' m11 m14 m17
      unfold Oper.wp; generalize a.eval = ρ at *; go_simp; exact fin
  · intro l g x w' hl hv ho hM
    obtain ⟨⟨D', hkp, hS, m11, m14, m17⟩, hk⟩ := hM
    have all : ∀ i, i < 18 → l i = true := hl
    obtain ⟨p4, r4⟩ := hk.row 4 (by decide) (all 4 (by omega))
    obtain ⟨p6, r6⟩ := hk.row 6 (by decide) (all 6 (by omega))
    obtain ⟨p8, r8⟩ := hk.row 8 (by decide) (all 8 (by omega))
    have n4_6 : g 4 ≠ g 6 := fun e => absurd (hk.ne 4 (by decide) 6 (by decide) (all 4 (by omega)) (all 6 (by omega)) e) (by omega)
    have n4_8 : g 4 ≠ g 8 := fun e => absurd (hk.ne 4 (by decide) 8 (by decide) (all 4 (by omega)) (all 8 (by omega)) e) (by omega)
    have n6_8 : g 6 ≠ g 8 := fun e => absurd (hk.ne 6 (by decide) 8 (by decide) (all 6 (by omega)) (all 8 (by omega)) e) (by omega)
    have s0 := hS.add (g 4) _ r4 (by omega) (fun k hk => by
      have := hlt k (by omega)
      omega)
    have s1 := s0.add (g 6) _ r6 (by omega) (fun k hk => by
      by_cases e0 : k = 4
      · subst e0; rw [upd_same]; exact n4_6
      rw [upd_other _ _ e0]
      have := hlt k (by omega)
      omega)
    have s2 := s1.add (g 8) _ r8 (by omega) (fun k hk => by
      by_cases e1 : k = 5
      · subst e1; rw [upd_same]; exact n6_8
      rw [upd_other _ _ e1]
      by_cases e0 : k = 4
      · subst e0; rw [upd_same]; exact n4_8
      rw [upd_other _ _ e0]
      have := hlt k (by omega)
      omega)
    exact HQ.out x w' (g 4) (g 6) (g 8) D' (fun s hs hw => ho s hs hw) s2 (m11 (all 11 (by omega))) (m14 (all 14 (by omega))) (m17 (all 17 (by omega))) hkp
set_option maxHeartbeats 4000000 in
set_option maxRecDepth 100000 in
theorem l60 {F : (Nat → Value) → Act} (hF : Fr 371 F) {w0 w : World} {E : Nat → Nat} {B : Nat → Lb} {D : Nat → Value} {f : Nat → Value} {Q : Exit → Act → World → Prop} {n : Nat} (hn : n ≤ 100000) (h11 : f 11 = .int .i64 (n : Nat)) (hb1 : B 1 = bx 74 (.pointer (some ⟨E 0, 0, none⟩)))
    (hS : St w0 w 4 E B) (hb0' : B 0 = vals 122 30 D) (h7 : f 7 = .pointer (some ⟨E 1, 0, none⟩))
    (hQ : ∀ x w' g4 g6 g8 D', (∀ s, s < 371 → wrF (opsL (Ybaz.f19.body.bind (regAt 60))) 0 s = none → x s = f s) → St w0 w' 7 (upd (upd (upd E 4 g4) 5 g6) 6 g8) (upd (upd (upd (upd B 0 (vals 122 30 D')) 4 (zrow 3 n (.int .i64 0))) 5 (zrow 3 n (.int .i64 0))) 6 (zrow 3 n (.int .i64 0))) → D' 12 = .slice (some ⟨g4, 0, none⟩) n n → D' 13 = .slice (some ⟨g6, 0, none⟩) n n → D' 21 = .slice (some ⟨g8, 0, none⟩) n n → (∀ i, i ≠ 12 → i ≠ 13 → i ≠ 21 → D' i = D i) → Q .normal (F x) w') :
    ((Ybaz.f19.body.bind (regAt 60)).getD .skip).wp Ybaz.prog Q (F f) w := by
  conv => arg 2; whnf
  have hlt : ∀ k, k < 4 → E k < w.drew.heap.size := fun k hk => (hS.row k hk).lt
  have hsz : w0.heap.size ≤ w.drew.heap.size := hS.since.size
  have HQ : Hid (∀ x w' g4 g6 g8 D', (∀ s, s < 371 → wrF (opsL (Ybaz.f19.body.bind (regAt 60))) 0 s = none → x s = f s) → St w0 w' 7 (upd (upd (upd E 4 g4) 5 g6) 6 g8) (upd (upd (upd (upd B 0 (vals 122 30 D')) 4 (zrow 3 n (.int .i64 0))) 5 (zrow 3 n (.int .i64 0))) 6 (zrow 3 n (.int .i64 0))) → D' 12 = .slice (some ⟨g4, 0, none⟩) n n → D' 13 = .slice (some ⟨g6, 0, none⟩) n n → D' 21 = .slice (some ⟨g8, 0, none⟩) n n → (∀ i, i ≠ 12 → i ≠ 13 → i ≠ 21 → D' i = D i) → Q .normal (F x) w') := hQ
  have H0 : Hid (St w0 w.drew 4 E (upd B 0 (vals 122 30 D))) := hS.drew.congr (fun _ _ => rfl) (fun k _ => by by_cases e : k = 0; (subst e; rw [upd_same, hb0']); rw [upd_other _ _ e])
  clear hS hQ
  refine region_frm hF (γ := (Nat → Nat)) (fun op9 g => match op9 with
    | 0 => .pointer (some ⟨E 0, 0, none⟩)
    | 1 => .pointer (some ⟨E 0, 0, none⟩)
    | 2 => .pointer (some ⟨E 0, 0, none⟩)
    | 3 => .int .i64 (n : Nat)
    | 4 => .slice (some ⟨g 4, 0, none⟩) n n
    | 5 => .int .i64 (n : Nat)
    | 6 => .slice (some ⟨g 6, 0, none⟩) n n
    | 7 => .int .i64 (n : Nat)
    | 8 => .slice (some ⟨g 8, 0, none⟩) n n
    | 9 => .pointer (some ⟨E 0, 0, none⟩)
    | 10 => .pointer (some ⟨E 0, 12, none⟩)
    | 11 => undef
    | 12 => .pointer (some ⟨E 0, 0, none⟩)
    | 13 => .pointer (some ⟨E 0, 13, none⟩)
    | 14 => undef
    | 15 => .pointer (some ⟨E 0, 0, none⟩)
    | 16 => .pointer (some ⟨E 0, 21, none⟩)
    | 17 => undef
    | _ => undef) (fun l g w' => (∃ D', (∀ i, i ≠ 12 → i ≠ 13 → i ≠ 21 → D' i = D i) ∧ St w0 w' 4 E (upd B 0 (vals 122 30 D')) ∧ (l 11 = true → D' 12 = .slice (some ⟨g 4, 0, none⟩) n n) ∧ (l 14 = true → D' 13 = .slice (some ⟨g 6, 0, none⟩) n n) ∧ (l 17 = true → D' 21 = .slice (some ⟨g 8, 0, none⟩) n n)) ∧ Mk w.drew w' l [4, 6, 8] g (fun j => match j with
      | 4 => zrow 3 n (.int .i64 0)
      | 6 => zrow 3 n (.int .i64 0)
      | 8 => zrow 3 n (.int .i64 0)
      | _ => zrow 0 0 undef)) (fun _ => 0) (by kernel_rfl) (by kernel_rfl) ⟨⟨D, (fun _ _ _ _ => rfl), H0.out, fun h => (by cases h), fun h => (by cases h), fun h => (by cases h)⟩, Mk.start _ _ _ _⟩ ?_ ?_
  · refine ⟨?_, ?_, ?_, ?_, ?_, ?_, ?_, ?_, ?_, ?_, ?_, ?_, ?_, ?_, ?_, ?_, ?_, ?_, trivial⟩
    · intro l g a w' K hp hc hl hG hM hK
      have e7 : a.eval (.tmp 7) = .pointer (some ⟨E 1, 0, none⟩) := (hG.oldF hF 7 (by kernel_rfl) (by omega)).trans h7
      have hM' : (∃ D', (∀ i, i ≠ 12 → i ≠ 13 → i ≠ 21 → D' i = D i) ∧ St w0 w' 4 E (upd B 0 (vals 122 30 D')) ∧ ((upd l 0 true) 11 = true → D' 12 = .slice (some ⟨g 4, 0, none⟩) n n) ∧ ((upd l 0 true) 14 = true → D' 13 = .slice (some ⟨g 6, 0, none⟩) n n) ∧ ((upd l 0 true) 17 = true → D' 21 = .slice (some ⟨g 8, 0, none⟩) n n)) ∧ Mk w.drew w' (upd l 0 true) [4, 6, 8] g (fun j => match j with
            | 4 => zrow 3 n (.int .i64 0)
            | 6 => zrow 3 n (.int .i64 0)
            | 8 => zrow 3 n (.int .i64 0)
            | _ => zrow 0 0 undef) := ⟨hM.1, hM.2.done 0 (by decide)⟩
      have hM9 := hM'
      obtain ⟨⟨D9, hq9, hS9, hr9⟩, hk9⟩ := hM9
      have kb := hS9.box (k := 1) (by omega) (show upd B 0 _ 1 = _ by rw [upd_other _ _ (by omega)]; exact hb1)
      clear hS9 hq9 hr9 hk9
      clear hc hp hG hM
      unfold Oper.wp; generalize a.eval = ρ at *; go_simp; exact hK g w' (fun _ _ => rfl) hM'
    · intro l g a w' K hp hc hl hG hM hK
      have e7 : a.eval (.tmp 7) = .pointer (some ⟨E 1, 0, none⟩) := (hG.oldF hF 7 (by kernel_rfl) (by omega)).trans h7
      have hM' : (∃ D', (∀ i, i ≠ 12 → i ≠ 13 → i ≠ 21 → D' i = D i) ∧ St w0 w' 4 E (upd B 0 (vals 122 30 D')) ∧ ((upd l 1 true) 11 = true → D' 12 = .slice (some ⟨g 4, 0, none⟩) n n) ∧ ((upd l 1 true) 14 = true → D' 13 = .slice (some ⟨g 6, 0, none⟩) n n) ∧ ((upd l 1 true) 17 = true → D' 21 = .slice (some ⟨g 8, 0, none⟩) n n)) ∧ Mk w.drew w' (upd l 1 true) [4, 6, 8] g (fun j => match j with
            | 4 => zrow 3 n (.int .i64 0)
            | 6 => zrow 3 n (.int .i64 0)
            | 8 => zrow 3 n (.int .i64 0)
            | _ => zrow 0 0 undef) := ⟨hM.1, hM.2.done 1 (by decide)⟩
      have hM9 := hM'
      obtain ⟨⟨D9, hq9, hS9, hr9⟩, hk9⟩ := hM9
      have kb := hS9.box (k := 1) (by omega) (show upd B 0 _ 1 = _ by rw [upd_other _ _ (by omega)]; exact hb1)
      clear hS9 hq9 hr9 hk9
      clear hc hp hG hM
      unfold Oper.wp; generalize a.eval = ρ at *; go_simp; exact hK g w' (fun _ _ => rfl) hM'
    · intro l g a w' K hp hc hl hG hM hK
      have e7 : a.eval (.tmp 7) = .pointer (some ⟨E 1, 0, none⟩) := (hG.oldF hF 7 (by kernel_rfl) (by omega)).trans h7
      have hM' : (∃ D', (∀ i, i ≠ 12 → i ≠ 13 → i ≠ 21 → D' i = D i) ∧ St w0 w' 4 E (upd B 0 (vals 122 30 D')) ∧ ((upd l 2 true) 11 = true → D' 12 = .slice (some ⟨g 4, 0, none⟩) n n) ∧ ((upd l 2 true) 14 = true → D' 13 = .slice (some ⟨g 6, 0, none⟩) n n) ∧ ((upd l 2 true) 17 = true → D' 21 = .slice (some ⟨g 8, 0, none⟩) n n)) ∧ Mk w.drew w' (upd l 2 true) [4, 6, 8] g (fun j => match j with
            | 4 => zrow 3 n (.int .i64 0)
            | 6 => zrow 3 n (.int .i64 0)
            | 8 => zrow 3 n (.int .i64 0)
            | _ => zrow 0 0 undef) := ⟨hM.1, hM.2.done 2 (by decide)⟩
      have hM9 := hM'
      obtain ⟨⟨D9, hq9, hS9, hr9⟩, hk9⟩ := hM9
      have kb := hS9.box (k := 1) (by omega) (show upd B 0 _ 1 = _ by rw [upd_other _ _ (by omega)]; exact hb1)
      clear hS9 hq9 hr9 hk9
      clear hc hp hG hM
      unfold Oper.wp; generalize a.eval = ρ at *; go_simp; exact hK g w' (fun _ _ => rfl) hM'
    · intro l g a w' K hp hc hl hG hM hK
      have e11 : a.eval (.tmp 11) = .int .i64 (n : Nat) := (hG.oldF hF 11 (by kernel_rfl) (by omega)).trans h11
      have hM' : (∃ D', (∀ i, i ≠ 12 → i ≠ 13 → i ≠ 21 → D' i = D i) ∧ St w0 w' 4 E (upd B 0 (vals 122 30 D')) ∧ ((upd l 3 true) 11 = true → D' 12 = .slice (some ⟨g 4, 0, none⟩) n n) ∧ ((upd l 3 true) 14 = true → D' 13 = .slice (some ⟨g 6, 0, none⟩) n n) ∧ ((upd l 3 true) 17 = true → D' 21 = .slice (some ⟨g 8, 0, none⟩) n n)) ∧ Mk w.drew w' (upd l 3 true) [4, 6, 8] g (fun j => match j with
            | 4 => zrow 3 n (.int .i64 0)
            | 6 => zrow 3 n (.int .i64 0)
            | 8 => zrow 3 n (.int .i64 0)
            | _ => zrow 0 0 undef) := ⟨hM.1, hM.2.done 3 (by decide)⟩
      clear hc hp hG hM
      unfold Oper.wp; generalize a.eval = ρ at *; go_simp; exact hK g w' (fun _ _ => rfl) hM'
    · intro l g a w' K hp hc hl hG hM hK
      have e318 : a.eval (.tmp 318) = .int .i64 (n : Nat) := hG.of 318 3 (by kernel_rfl) (preAt hc 18 _ hp (by kernel_rfl))
      refine op_make mty46 (.tmp 318) (.tmp 318) rfl n n e318 e318 (by omega) (by omega) ?_
      obtain ⟨⟨D', hkp, hS, m11, m14, m17⟩, hk⟩ := hM
      refine hK (upd g 4 w'.heap.size) _ (fun i hi => by
              match i, hi with
              | 0, _ => rfl
              | 1, _ => rfl
              | 2, _ => rfl
              | 3, _ => rfl
              | 4, hi => exact absurd hi (by rw [hl]; decide)
              | 5, _ => rfl
              | 6, _ => rfl
              | 7, _ => rfl
              | 8, _ => rfl
              | 9, _ => rfl
              | 10, _ => rfl
              | 11, _ => rfl
              | 12, _ => rfl
              | 13, _ => rfl
              | 14, _ => rfl
              | 15, _ => rfl
              | 16, _ => rfl
              | 17, _ => rfl
              | _ + 18, _ => rfl) ⟨⟨D', hkp, hS.alloc _, ?_, ?_, ?_⟩, hk.make 4 hl _ (rowOk_z _ _ _ _)⟩
      · intro hx; rw [upd_other _ _ (by omega)] at hx; exact absurd hx (by rw [hc.not 11 18 hl (by kernel_rfl)]; decide)
      · intro hx; rw [upd_other _ _ (by omega)] at hx; rw [upd_other _ _ (by omega)]; exact m14 hx
      · intro hx; rw [upd_other _ _ (by omega)] at hx; rw [upd_other _ _ (by omega)]; exact m17 hx
    · intro l g a w' K hp hc hl hG hM hK
      have e11 : a.eval (.tmp 11) = .int .i64 (n : Nat) := (hG.oldF hF 11 (by kernel_rfl) (by omega)).trans h11
      have hM' : (∃ D', (∀ i, i ≠ 12 → i ≠ 13 → i ≠ 21 → D' i = D i) ∧ St w0 w' 4 E (upd B 0 (vals 122 30 D')) ∧ ((upd l 5 true) 11 = true → D' 12 = .slice (some ⟨g 4, 0, none⟩) n n) ∧ ((upd l 5 true) 14 = true → D' 13 = .slice (some ⟨g 6, 0, none⟩) n n) ∧ ((upd l 5 true) 17 = true → D' 21 = .slice (some ⟨g 8, 0, none⟩) n n)) ∧ Mk w.drew w' (upd l 5 true) [4, 6, 8] g (fun j => match j with
            | 4 => zrow 3 n (.int .i64 0)
            | 6 => zrow 3 n (.int .i64 0)
            | 8 => zrow 3 n (.int .i64 0)
            | _ => zrow 0 0 undef) := ⟨hM.1, hM.2.done 5 (by decide)⟩
      clear hc hp hG hM
      unfold Oper.wp; generalize a.eval = ρ at *; go_simp; exact hK g w' (fun _ _ => rfl) hM'
    · intro l g a w' K hp hc hl hG hM hK
      have e320 : a.eval (.tmp 320) = .int .i64 (n : Nat) := hG.of 320 5 (by kernel_rfl) (preAt hc 18 _ hp (by kernel_rfl))
      refine op_make mty46 (.tmp 320) (.tmp 320) rfl n n e320 e320 (by omega) (by omega) ?_
      obtain ⟨⟨D', hkp, hS, m11, m14, m17⟩, hk⟩ := hM
      refine hK (upd g 6 w'.heap.size) _ (fun i hi => by
              match i, hi with
              | 0, _ => rfl
              | 1, _ => rfl
              | 2, _ => rfl
              | 3, _ => rfl
              | 4, _ => rfl
              | 5, _ => rfl
              | 6, hi => exact absurd hi (by rw [hl]; decide)
              | 7, _ => rfl
              | 8, _ => rfl
              | 9, _ => rfl
              | 10, _ => rfl
              | 11, _ => rfl
              | 12, _ => rfl
              | 13, _ => rfl
              | 14, _ => rfl
              | 15, _ => rfl
              | 16, _ => rfl
              | 17, _ => rfl
              | _ + 18, _ => rfl) ⟨⟨D', hkp, hS.alloc _, ?_, ?_, ?_⟩, hk.make 6 hl _ (rowOk_z _ _ _ _)⟩
      · intro hx; rw [upd_other _ _ (by omega)] at hx; rw [upd_other _ _ (by omega)]; exact m11 hx
      · intro hx; rw [upd_other _ _ (by omega)] at hx; exact absurd hx (by rw [hc.not 14 18 hl (by kernel_rfl)]; decide)
      · intro hx; rw [upd_other _ _ (by omega)] at hx; rw [upd_other _ _ (by omega)]; exact m17 hx
    · intro l g a w' K hp hc hl hG hM hK
      have e11 : a.eval (.tmp 11) = .int .i64 (n : Nat) := (hG.oldF hF 11 (by kernel_rfl) (by omega)).trans h11
      have hM' : (∃ D', (∀ i, i ≠ 12 → i ≠ 13 → i ≠ 21 → D' i = D i) ∧ St w0 w' 4 E (upd B 0 (vals 122 30 D')) ∧ ((upd l 7 true) 11 = true → D' 12 = .slice (some ⟨g 4, 0, none⟩) n n) ∧ ((upd l 7 true) 14 = true → D' 13 = .slice (some ⟨g 6, 0, none⟩) n n) ∧ ((upd l 7 true) 17 = true → D' 21 = .slice (some ⟨g 8, 0, none⟩) n n)) ∧ Mk w.drew w' (upd l 7 true) [4, 6, 8] g (fun j => match j with
            | 4 => zrow 3 n (.int .i64 0)
            | 6 => zrow 3 n (.int .i64 0)
            | 8 => zrow 3 n (.int .i64 0)
            | _ => zrow 0 0 undef) := ⟨hM.1, hM.2.done 7 (by decide)⟩
      clear hc hp hG hM
      unfold Oper.wp; generalize a.eval = ρ at *; go_simp; exact hK g w' (fun _ _ => rfl) hM'
    · intro l g a w' K hp hc hl hG hM hK
      have e322 : a.eval (.tmp 322) = .int .i64 (n : Nat) := hG.of 322 7 (by kernel_rfl) (preAt hc 18 _ hp (by kernel_rfl))
      refine op_make mty46 (.tmp 322) (.tmp 322) rfl n n e322 e322 (by omega) (by omega) ?_
      obtain ⟨⟨D', hkp, hS, m11, m14, m17⟩, hk⟩ := hM
      refine hK (upd g 8 w'.heap.size) _ (fun i hi => by
              match i, hi with
              | 0, _ => rfl
              | 1, _ => rfl
              | 2, _ => rfl
              | 3, _ => rfl
              | 4, _ => rfl
              | 5, _ => rfl
              | 6, _ => rfl
              | 7, _ => rfl
              | 8, hi => exact absurd hi (by rw [hl]; decide)
              | 9, _ => rfl
              | 10, _ => rfl
              | 11, _ => rfl
              | 12, _ => rfl
              | 13, _ => rfl
              | 14, _ => rfl
              | 15, _ => rfl
              | 16, _ => rfl
              | 17, _ => rfl
              | _ + 18, _ => rfl) ⟨⟨D', hkp, hS.alloc _, ?_, ?_, ?_⟩, hk.make 8 hl _ (rowOk_z _ _ _ _)⟩
      · intro hx; rw [upd_other _ _ (by omega)] at hx; rw [upd_other _ _ (by omega)]; exact m11 hx
      · intro hx; rw [upd_other _ _ (by omega)] at hx; rw [upd_other _ _ (by omega)]; exact m14 hx
      · intro hx; rw [upd_other _ _ (by omega)] at hx; exact absurd hx (by rw [hc.not 17 18 hl (by kernel_rfl)]; decide)
    · intro l g a w' K hp hc hl hG hM hK
      have e315 : a.eval (.tmp 315) = .pointer (some ⟨E 0, 0, none⟩) := hG.of 315 0 (by kernel_rfl) (preAt hc 18 _ hp (by kernel_rfl))
      have hM' : (∃ D', (∀ i, i ≠ 12 → i ≠ 13 → i ≠ 21 → D' i = D i) ∧ St w0 w' 4 E (upd B 0 (vals 122 30 D')) ∧ ((upd l 9 true) 11 = true → D' 12 = .slice (some ⟨g 4, 0, none⟩) n n) ∧ ((upd l 9 true) 14 = true → D' 13 = .slice (some ⟨g 6, 0, none⟩) n n) ∧ ((upd l 9 true) 17 = true → D' 21 = .slice (some ⟨g 8, 0, none⟩) n n)) ∧ Mk w.drew w' (upd l 9 true) [4, 6, 8] g (fun j => match j with
            | 4 => zrow 3 n (.int .i64 0)
            | 6 => zrow 3 n (.int .i64 0)
            | 8 => zrow 3 n (.int .i64 0)
            | _ => zrow 0 0 undef) := ⟨hM.1, hM.2.done 9 (by decide)⟩
      clear hc hp hG hM
      unfold Oper.wp; generalize a.eval = ρ at *; go_simp; exact hK g w' (fun _ _ => rfl) hM'
    · intro l g a w' K hp hc hl hG hM hK
      have e324 : a.eval (.tmp 324) = .pointer (some ⟨E 0, 0, none⟩) := hG.of 324 9 (by kernel_rfl) (preAt hc 18 _ hp (by kernel_rfl))
      have hM' : (∃ D', (∀ i, i ≠ 12 → i ≠ 13 → i ≠ 21 → D' i = D i) ∧ St w0 w' 4 E (upd B 0 (vals 122 30 D')) ∧ ((upd l 10 true) 11 = true → D' 12 = .slice (some ⟨g 4, 0, none⟩) n n) ∧ ((upd l 10 true) 14 = true → D' 13 = .slice (some ⟨g 6, 0, none⟩) n n) ∧ ((upd l 10 true) 17 = true → D' 21 = .slice (some ⟨g 8, 0, none⟩) n n)) ∧ Mk w.drew w' (upd l 10 true) [4, 6, 8] g (fun j => match j with
            | 4 => zrow 3 n (.int .i64 0)
            | 6 => zrow 3 n (.int .i64 0)
            | 8 => zrow 3 n (.int .i64 0)
            | _ => zrow 0 0 undef) := ⟨hM.1, hM.2.done 10 (by decide)⟩
      clear hc hp hG hM
      unfold Oper.wp; generalize a.eval = ρ at *; go_simp; exact hK g w' (fun _ _ => rfl) hM'
    · intro l g a w' K hp hc hl hG hM hK
      have e325 : a.eval (.tmp 325) = .pointer (some ⟨E 0, 12, none⟩) := hG.of 325 10 (by kernel_rfl) (preAt hc 18 _ hp (by kernel_rfl))
      have e319 : a.eval (.tmp 319) = .slice (some ⟨g 4, 0, none⟩) n n := hG.of 319 4 (by kernel_rfl) (preAt hc 18 _ hp (by kernel_rfl))
      obtain ⟨⟨D', hkp, hS, m11, m14, m17⟩, hk⟩ := hM
      have hS' := hS.setVal (k := 0) (by omega) (upd_same _ _ _) 12 (.slice (some ⟨g 4, 0, none⟩) n n)
      have kc := hS.valAt (k := 0) (by omega) (upd_same _ _ _) (i := 12) (by omega)
      have kf := hS.frz 0 (by omega) 12
      rw [upd_upd] at hS'
      have hk' := hk.set (b := E 0) (hlt 0 (by omega)) 12 (.slice (some ⟨g 4, 0, none⟩) n n)
      have fin := hK g (w'.setCell ⟨E 0, 12, none⟩ (.slice (some ⟨g 4, 0, none⟩) n n)) (fun _ _ => rfl) ⟨⟨_, fun i q0 q1 q2 => (upd_other _ _ q0).trans (hkp i q0 q1 q2), hS', fun _ => upd_same _ _ _, fun hx => (upd_other _ _ (by omega)).trans (m14 (by rwa [upd_other _ _ (by omega)] at hx)), fun hx => (upd_other _ _ (by omega)).trans (m17 (by rwa [upd_other _ _ (by omega)] at hx))⟩, hk'.done 11 (by decide)⟩
      clear hK hc hp hG hS hS' hk hk' m11 m14 m17
      unfold Oper.wp; generalize a.eval = ρ at *; go_simp; exact fin
    · intro l g a w' K hp hc hl hG hM hK
      have e316 : a.eval (.tmp 316) = .pointer (some ⟨E 0, 0, none⟩) := hG.of 316 1 (by kernel_rfl) (preAt hc 18 _ hp (by kernel_rfl))
      have hM' : (∃ D', (∀ i, i ≠ 12 → i ≠ 13 → i ≠ 21 → D' i = D i) ∧ St w0 w' 4 E (upd B 0 (vals 122 30 D')) ∧ ((upd l 12 true) 11 = true → D' 12 = .slice (some ⟨g 4, 0, none⟩) n n) ∧ ((upd l 12 true) 14 = true → D' 13 = .slice (some ⟨g 6, 0, none⟩) n n) ∧ ((upd l 12 true) 17 = true → D' 21 = .slice (some ⟨g 8, 0, none⟩) n n)) ∧ Mk w.drew w' (upd l 12 true) [4, 6, 8] g (fun j => match j with
            | 4 => zrow 3 n (.int .i64 0)
            | 6 => zrow 3 n (.int .i64 0)
            | 8 => zrow 3 n (.int .i64 0)
            | _ => zrow 0 0 undef) := ⟨hM.1, hM.2.done 12 (by decide)⟩
      clear hc hp hG hM
      unfold Oper.wp; generalize a.eval = ρ at *; go_simp; exact hK g w' (fun _ _ => rfl) hM'
    · intro l g a w' K hp hc hl hG hM hK
      have e326 : a.eval (.tmp 326) = .pointer (some ⟨E 0, 0, none⟩) := hG.of 326 12 (by kernel_rfl) (preAt hc 18 _ hp (by kernel_rfl))
      have hM' : (∃ D', (∀ i, i ≠ 12 → i ≠ 13 → i ≠ 21 → D' i = D i) ∧ St w0 w' 4 E (upd B 0 (vals 122 30 D')) ∧ ((upd l 13 true) 11 = true → D' 12 = .slice (some ⟨g 4, 0, none⟩) n n) ∧ ((upd l 13 true) 14 = true → D' 13 = .slice (some ⟨g 6, 0, none⟩) n n) ∧ ((upd l 13 true) 17 = true → D' 21 = .slice (some ⟨g 8, 0, none⟩) n n)) ∧ Mk w.drew w' (upd l 13 true) [4, 6, 8] g (fun j => match j with
            | 4 => zrow 3 n (.int .i64 0)
            | 6 => zrow 3 n (.int .i64 0)
            | 8 => zrow 3 n (.int .i64 0)
            | _ => zrow 0 0 undef) := ⟨hM.1, hM.2.done 13 (by decide)⟩
      clear hc hp hG hM
      unfold Oper.wp; generalize a.eval = ρ at *; go_simp; exact hK g w' (fun _ _ => rfl) hM'
    · intro l g a w' K hp hc hl hG hM hK
      have e327 : a.eval (.tmp 327) = .pointer (some ⟨E 0, 13, none⟩) := hG.of 327 13 (by kernel_rfl) (preAt hc 18 _ hp (by kernel_rfl))
      have e321 : a.eval (.tmp 321) = .slice (some ⟨g 6, 0, none⟩) n n := hG.of 321 6 (by kernel_rfl) (preAt hc 18 _ hp (by kernel_rfl))
      obtain ⟨⟨D', hkp, hS, m11, m14, m17⟩, hk⟩ := hM
      have hS' := hS.setVal (k := 0) (by omega) (upd_same _ _ _) 13 (.slice (some ⟨g 6, 0, none⟩) n n)
      have kc := hS.valAt (k := 0) (by omega) (upd_same _ _ _) (i := 13) (by omega)
      have kf := hS.frz 0 (by omega) 13
      rw [upd_upd] at hS'
      have hk' := hk.set (b := E 0) (hlt 0 (by omega)) 13 (.slice (some ⟨g 6, 0, none⟩) n n)
      have fin := hK g (w'.setCell ⟨E 0, 13, none⟩ (.slice (some ⟨g 6, 0, none⟩) n n)) (fun _ _ => rfl) ⟨⟨_, fun i q0 q1 q2 => (upd_other _ _ q1).trans (hkp i q0 q1 q2), hS', fun hx => (upd_other _ _ (by omega)).trans (m11 (by rwa [upd_other _ _ (by omega)] at hx)), fun _ => upd_same _ _ _, fun hx => (upd_other _ _ (by omega)).trans (m17 (by rwa [upd_other _ _ (by omega)] at hx))⟩, hk'.done 14 (by decide)⟩
      clear hK hc hp hG hS hS' hk hk' m11 m14 m17
      unfold Oper.wp; generalize a.eval = ρ at *; go_simp; exact fin
    · intro l g a w' K hp hc hl hG hM hK
      have e317 : a.eval (.tmp 317) = .pointer (some ⟨E 0, 0, none⟩) := hG.of 317 2 (by kernel_rfl) (preAt hc 18 _ hp (by kernel_rfl))
      have hM' : (∃ D', (∀ i, i ≠ 12 → i ≠ 13 → i ≠ 21 → D' i = D i) ∧ St w0 w' 4 E (upd B 0 (vals 122 30 D')) ∧ ((upd l 15 true) 11 = true → D' 12 = .slice (some ⟨g 4, 0, none⟩) n n) ∧ ((upd l 15 true) 14 = true → D' 13 = .slice (some ⟨g 6, 0, none⟩) n n) ∧ ((upd l 15 true) 17 = true → D' 21 = .slice (some ⟨g 8, 0, none⟩) n n)) ∧ Mk w.drew w' (upd l 15 true) [4, 6, 8] g (fun j => match j with
            | 4 => zrow 3 n (.int .i64 0)
            | 6 => zrow 3 n (.int .i64 0)
            | 8 => zrow 3 n (.int .i64 0)
            | _ => zrow 0 0 undef) := ⟨hM.1, hM.2.done 15 (by decide)⟩
      clear hc hp hG hM
      unfold Oper.wp; generalize a.eval = ρ at *; go_simp; exact hK g w' (fun _ _ => rfl) hM'
    · intro l g a w' K hp hc hl hG hM hK
      have e328 : a.eval (.tmp 328) = .pointer (some ⟨E 0, 0, none⟩) := hG.of 328 15 (by kernel_rfl) (preAt hc 18 _ hp (by kernel_rfl))
      have hM' : (∃ D', (∀ i, i ≠ 12 → i ≠ 13 → i ≠ 21 → D' i = D i) ∧ St w0 w' 4 E (upd B 0 (vals 122 30 D')) ∧ ((upd l 16 true) 11 = true → D' 12 = .slice (some ⟨g 4, 0, none⟩) n n) ∧ ((upd l 16 true) 14 = true → D' 13 = .slice (some ⟨g 6, 0, none⟩) n n) ∧ ((upd l 16 true) 17 = true → D' 21 = .slice (some ⟨g 8, 0, none⟩) n n)) ∧ Mk w.drew w' (upd l 16 true) [4, 6, 8] g (fun j => match j with
            | 4 => zrow 3 n (.int .i64 0)
            | 6 => zrow 3 n (.int .i64 0)
            | 8 => zrow 3 n (.int .i64 0)
            | _ => zrow 0 0 undef) := ⟨hM.1, hM.2.done 16 (by decide)⟩
      clear hc hp hG hM
      unfold Oper.wp; generalize a.eval = ρ at *; go_simp; exact hK g w' (fun _ _ => rfl) hM'
    · intro l g a w' K hp hc hl hG hM hK
      have e329 : a.eval (.tmp 329) = .pointer (some ⟨E 0, 21, none⟩) := hG.of 329 16 (by kernel_rfl) (preAt hc 18 _ hp (by kernel_rfl))
      have e323 : a.eval (.tmp 323) = .slice (some ⟨g 8, 0, none⟩) n n := hG.of 323 8 (by kernel_rfl) (preAt hc 18 _ hp (by kernel_rfl))
      obtain ⟨⟨D', hkp, hS, m11, m14, m17⟩, hk⟩ := hM
      have hS' := hS.setVal (k := 0) (by omega) (upd_same _ _ _) 21 (.slice (some ⟨g 8, 0, none⟩) n n)
      have kc := hS.valAt (k := 0) (by omega) (upd_same _ _ _) (i := 21) (by omega)
      have kf := hS.frz 0 (by omega) 21
      rw [upd_upd] at hS'
      have hk' := hk.set (b := E 0) (hlt 0 (by omega)) 21 (.slice (some ⟨g 8, 0, none⟩) n n)
      have fin := hK g (w'.setCell ⟨E 0, 21, none⟩ (.slice (some ⟨g 8, 0, none⟩) n n)) (fun _ _ => rfl) ⟨⟨_, fun i q0 q1 q2 => (upd_other _ _ q2).trans (hkp i q0 q1 q2), hS', fun hx => (upd_other _ _ (by omega)).trans (m11 (by rwa [upd_other _ _ (by omega)] at hx)), fun hx => (upd_other _ _ (by omega)).trans (m14 (by rwa [upd_other _ _ (by omega)] at hx)), fun _ => upd_same _ _ _⟩, hk'.done 17 (by decide)⟩
      clear hK hc hp hG hS hS' hk hk' m11 m14 m17
      unfold Oper.wp; generalize a.eval = ρ at *; go_simp; exact fin
  · intro l g x w' hl hv ho hM
    obtain ⟨⟨D', hkp, hS, m11, m14, m17⟩, hk⟩ := hM
    have all : ∀ i, i < 18 → l i = true := hl
    obtain ⟨p4, r4⟩ := hk.row 4 (by decide) (all 4 (by omega))
    obtain ⟨p6, r6⟩ := hk.row 6 (by decide) (all 6 (by omega))
    obtain ⟨p8, r8⟩ := hk.row 8 (by decide) (all 8 (by omega))
    have n4_6 : g 4 ≠ g 6 := fun e => absurd (hk.ne 4 (by decide) 6 (by decide) (all 4 (by omega)) (all 6 (by omega)) e) (by omega)
    have n4_8 : g 4 ≠ g 8 := fun e => absurd (hk.ne 4 (by decide) 8 (by decide) (all 4 (by omega)) (all 8 (by omega)) e) (by omega)
    have n6_8 : g 6 ≠ g 8 := fun e => absurd (hk.ne 6 (by decide) 8 (by decide) (all 6 (by omega)) (all 8 (by omega)) e) (by omega)
    have s0 := hS.add (g 4) _ r4 (by omega) (fun k hk => by
      have := hlt k (by omega)
      omega)
    have s1 := s0.add (g 6) _ r6 (by omega) (fun k hk => by
      by_cases e0 : k = 4
      · subst e0; rw [upd_same]; exact n4_6
      rw [upd_other _ _ e0]
      have := hlt k (by omega)
      omega)
    have s2 := s1.add (g 8) _ r8 (by omega) (fun k hk => by
      by_cases e1 : k = 5
      · subst e1; rw [upd_same]; exact n6_8
      rw [upd_other _ _ e1]
      by_cases e0 : k = 4
      · subst e0; rw [upd_same]; exact n4_8
      rw [upd_other _ _ e0]
      have := hlt k (by omega)
      omega)
    exact HQ.out x w' (g 4) (g 6) (g 8) D' (fun s hs hw => ho s hs hw) s2 (m11 (all 11 (by omega))) (m14 (all 14 (by omega))) (m17 (all 17 (by omega))) hkp
set_option maxHeartbeats 4000000 in
set_option maxRecDepth 100000 in
theorem l51 {F : (Nat → Value) → Act} (hF : Fr 371 F) {w0 w : World} {E : Nat → Nat} {B : Nat → Lb} {D : Nat → Value} {f : Nat → Value} {Q : Exit → Act → World → Prop} {aa : Option Addr} {ac : Nat} (h2 : f 2 = .slice aa 0 ac) (hb1 : B 1 = bx 74 (.pointer (some ⟨E 0, 0, none⟩)))
    (hS : St w0 w 4 E B) (hb0' : B 0 = vals 122 30 D) (h7 : f 7 = .pointer (some ⟨E 1, 0, none⟩))
    (hQ : ∀ x w' g3 D', (∀ s, s < 371 → wrF (opsL (Ybaz.f19.body.bind (regAt 51))) 0 s = none → x s = f s) → St w0 w' 5 (upd E 4 g3) (upd (upd B 0 (vals 122 30 D')) 4 (zrow 88 0 (.int .i64 0))) → D' 6 = .slice (some ⟨g3, 0, none⟩) 0 0 → (∀ i, i ≠ 6 → D' i = D i) → Q .normal (F x) w') :
    ((Ybaz.f19.body.bind (regAt 51)).getD .skip).wp Ybaz.prog Q (F f) w := by
  conv => arg 2; whnf
  have hlt : ∀ k, k < 4 → E k < w.drew.heap.size := fun k hk => (hS.row k hk).lt
  have hsz : w0.heap.size ≤ w.drew.heap.size := hS.since.size
  have HQ : Hid (∀ x w' g3 D', (∀ s, s < 371 → wrF (opsL (Ybaz.f19.body.bind (regAt 51))) 0 s = none → x s = f s) → St w0 w' 5 (upd E 4 g3) (upd (upd B 0 (vals 122 30 D')) 4 (zrow 88 0 (.int .i64 0))) → D' 6 = .slice (some ⟨g3, 0, none⟩) 0 0 → (∀ i, i ≠ 6 → D' i = D i) → Q .normal (F x) w') := hQ
  have H0 : Hid (St w0 w.drew 4 E (upd B 0 (vals 122 30 D))) := hS.drew.congr (fun _ _ => rfl) (fun k _ => by by_cases e : k = 0; (subst e; rw [upd_same, hb0']); rw [upd_other _ _ e])
  clear hS hQ
  refine region_frm hF (γ := (Nat → Nat)) (fun op9 g => match op9 with
    | 0 => .pointer (some ⟨E 0, 0, none⟩)
    | 1 => .slice aa 0 ac
    | 2 => .int .i64 ((0 : Nat) : Int)
    | 3 => .slice (some ⟨g 3, 0, none⟩) 0 0
    | 4 => .pointer (some ⟨E 0, 0, none⟩)
    | 5 => .pointer (some ⟨E 0, 6, none⟩)
    | 6 => undef
    | _ => undef) (fun l g w' => (∃ D', (∀ i, i ≠ 6 → D' i = D i) ∧ St w0 w' 4 E (upd B 0 (vals 122 30 D')) ∧ (l 6 = true → D' 6 = .slice (some ⟨g 3, 0, none⟩) 0 0)) ∧ Mk w.drew w' l [3] g (fun j => match j with
      | 3 => zrow 88 0 (.int .i64 0)
      | _ => zrow 0 0 undef)) (fun _ => 0) (by kernel_rfl) (by kernel_rfl) ⟨⟨D, (fun _ _ => rfl), H0.out, fun h => (by cases h)⟩, Mk.start _ _ _ _⟩ ?_ ?_
  · refine ⟨?_, ?_, ?_, ?_, ?_, ?_, ?_, trivial⟩
    · intro l g a w' K hp hc hl hG hM hK
      have e7 : a.eval (.tmp 7) = .pointer (some ⟨E 1, 0, none⟩) := (hG.oldF hF 7 (by kernel_rfl) (by omega)).trans h7
      have hM' : (∃ D', (∀ i, i ≠ 6 → D' i = D i) ∧ St w0 w' 4 E (upd B 0 (vals 122 30 D')) ∧ ((upd l 0 true) 6 = true → D' 6 = .slice (some ⟨g 3, 0, none⟩) 0 0)) ∧ Mk w.drew w' (upd l 0 true) [3] g (fun j => match j with
            | 3 => zrow 88 0 (.int .i64 0)
            | _ => zrow 0 0 undef) := ⟨hM.1, hM.2.done 0 (by decide)⟩
      have hM9 := hM'
      obtain ⟨⟨D9, hq9, hS9, hr9⟩, hk9⟩ := hM9
      have kb := hS9.box (k := 1) (by omega) (show upd B 0 _ 1 = _ by rw [upd_other _ _ (by omega)]; exact hb1)
      clear hS9 hq9 hr9 hk9
      clear hc hp hG hM
      unfold Oper.wp; generalize a.eval = ρ at *; go_simp; exact hK g w' (fun _ _ => rfl) hM'
    · intro l g a w' K hp hc hl hG hM hK
      have e2 : a.eval (.tmp 2) = .slice aa 0 ac := (hG.oldF hF 2 (by kernel_rfl) (by omega)).trans h2
      have hM' : (∃ D', (∀ i, i ≠ 6 → D' i = D i) ∧ St w0 w' 4 E (upd B 0 (vals 122 30 D')) ∧ ((upd l 1 true) 6 = true → D' 6 = .slice (some ⟨g 3, 0, none⟩) 0 0)) ∧ Mk w.drew w' (upd l 1 true) [3] g (fun j => match j with
            | 3 => zrow 88 0 (.int .i64 0)
            | _ => zrow 0 0 undef) := ⟨hM.1, hM.2.done 1 (by decide)⟩
      clear hc hp hG hM
      unfold Oper.wp; generalize a.eval = ρ at *; go_simp; exact hK g w' (fun _ _ => rfl) hM'
    · intro l g a w' K hp hc hl hG hM hK
      have e263 : a.eval (.tmp 263) = .slice aa 0 ac := hG.of 263 1 (by kernel_rfl) (preAt hc 7 _ hp (by kernel_rfl))
      have hM' : (∃ D', (∀ i, i ≠ 6 → D' i = D i) ∧ St w0 w' 4 E (upd B 0 (vals 122 30 D')) ∧ ((upd l 2 true) 6 = true → D' 6 = .slice (some ⟨g 3, 0, none⟩) 0 0)) ∧ Mk w.drew w' (upd l 2 true) [3] g (fun j => match j with
            | 3 => zrow 88 0 (.int .i64 0)
            | _ => zrow 0 0 undef) := ⟨hM.1, hM.2.done 2 (by decide)⟩
      clear hc hp hG hM
      unfold Oper.wp; generalize a.eval = ρ at *; go_simp; exact hK g w' (fun _ _ => rfl) hM'
    · intro l g a w' K hp hc hl hG hM hK
      have e264 : a.eval (.tmp 264) = .int .i64 ((0 : Nat) : Int) := hG.of 264 2 (by kernel_rfl) (preAt hc 7 _ hp (by kernel_rfl))
      refine op_make75 (.tmp 264) (.tmp 264) rfl e264 e264 ?_
      obtain ⟨⟨D', hkp, hS, m6⟩, hk⟩ := hM
      refine hK (upd g 3 w'.heap.size) _ (fun i hi => by
              match i, hi with
              | 0, _ => rfl
              | 1, _ => rfl
              | 2, _ => rfl
              | 3, hi => exact absurd hi (by rw [hl]; decide)
              | 4, _ => rfl
              | 5, _ => rfl
              | 6, _ => rfl
              | _ + 7, _ => rfl) ⟨⟨D', hkp, hS.alloc _, ?_⟩, hk.make 3 hl _ (rowOk_z _ _ _ _)⟩
      · intro hx; rw [upd_other _ _ (by omega)] at hx; exact absurd hx (by rw [hc.not 6 7 hl (by kernel_rfl)]; decide)
    · intro l g a w' K hp hc hl hG hM hK
      have e262 : a.eval (.tmp 262) = .pointer (some ⟨E 0, 0, none⟩) := hG.of 262 0 (by kernel_rfl) (preAt hc 7 _ hp (by kernel_rfl))
      have hM' : (∃ D', (∀ i, i ≠ 6 → D' i = D i) ∧ St w0 w' 4 E (upd B 0 (vals 122 30 D')) ∧ ((upd l 4 true) 6 = true → D' 6 = .slice (some ⟨g 3, 0, none⟩) 0 0)) ∧ Mk w.drew w' (upd l 4 true) [3] g (fun j => match j with
            | 3 => zrow 88 0 (.int .i64 0)
            | _ => zrow 0 0 undef) := ⟨hM.1, hM.2.done 4 (by decide)⟩
      clear hc hp hG hM
      unfold Oper.wp; generalize a.eval = ρ at *; go_simp; exact hK g w' (fun _ _ => rfl) hM'
    · intro l g a w' K hp hc hl hG hM hK
      have e266 : a.eval (.tmp 266) = .pointer (some ⟨E 0, 0, none⟩) := hG.of 266 4 (by kernel_rfl) (preAt hc 7 _ hp (by kernel_rfl))
      have hM' : (∃ D', (∀ i, i ≠ 6 → D' i = D i) ∧ St w0 w' 4 E (upd B 0 (vals 122 30 D')) ∧ ((upd l 5 true) 6 = true → D' 6 = .slice (some ⟨g 3, 0, none⟩) 0 0)) ∧ Mk w.drew w' (upd l 5 true) [3] g (fun j => match j with
            | 3 => zrow 88 0 (.int .i64 0)
            | _ => zrow 0 0 undef) := ⟨hM.1, hM.2.done 5 (by decide)⟩
      clear hc hp hG hM
      unfold Oper.wp; generalize a.eval = ρ at *; go_simp; exact hK g w' (fun _ _ => rfl) hM'
    · intro l g a w' K hp hc hl hG hM hK
      have e267 : a.eval (.tmp 267) = .pointer (some ⟨E 0, 6, none⟩) := hG.of 267 5 (by kernel_rfl) (preAt hc 7 _ hp (by kernel_rfl))
      have e265 : a.eval (.tmp 265) = .slice (some ⟨g 3, 0, none⟩) 0 0 := hG.of 265 3 (by kernel_rfl) (preAt hc 7 _ hp (by kernel_rfl))
      obtain ⟨⟨D', hkp, hS, m6⟩, hk⟩ := hM
      have hS' := hS.setVal (k := 0) (by omega) (upd_same _ _ _) 6 (.slice (some ⟨g 3, 0, none⟩) 0 0)
      have kc := hS.valAt (k := 0) (by omega) (upd_same _ _ _) (i := 6) (by omega)
      have kf := hS.frz 0 (by omega) 6
      rw [upd_upd] at hS'
      have hk' := hk.set (b := E 0) (hlt 0 (by omega)) 6 (.slice (some ⟨g 3, 0, none⟩) 0 0)
      have fin := hK g (w'.setCell ⟨E 0, 6, none⟩ (.slice (some ⟨g 3, 0, none⟩) 0 0)) (fun _ _ => rfl) ⟨⟨_, fun i q0 => (upd_other _ _ q0).trans (hkp i q0), hS', fun _ => upd_same _ _ _⟩, hk'.done 6 (by decide)⟩
      clear hK hc hp hG hS hS' hk hk' m6
      unfold Oper.wp; generalize a.eval = ρ at *; go_simp; exact fin
  · intro l g x w' hl hv ho hM
    obtain ⟨⟨D', hkp, hS, m6⟩, hk⟩ := hM
    have all : ∀ i, i < 7 → l i = true := hl
    obtain ⟨p3, r3⟩ := hk.row 3 (by decide) (all 3 (by omega))
    have s0 := hS.add (g 3) _ r3 (by omega) (fun k hk => by
      have := hlt k (by omega)
      omega)
    exact HQ.out x w' (g 3) D' (fun s hs hw => ho s hs hw) s0 (m6 (all 6 (by omega))) hkp
set_option maxHeartbeats 4000000 in
set_option maxRecDepth 100000 in
theorem l40 {F : (Nat → Value) → Act} (hF : Fr 371 F) {w0 w : World} {E : Nat → Nat} {B : Nat → Lb} {D : Nat → Value} {f : Nat → Value} {Q : Exit → Act → World → Prop} (h1 : f 1 = .int .i64 0) (hb1 : B 1 = bx 74 (.pointer (some ⟨E 0, 0, none⟩)))
    (hS : St w0 w 4 E B) (hb0' : B 0 = vals 122 30 D) (h7 : f 7 = .pointer (some ⟨E 1, 0, none⟩))
    (hQ : ∀ x w' g3 D', (∀ s, s < 371 → wrF (opsL (Ybaz.f19.body.bind (regAt 40))) 0 s = none → x s = f s) → St w0 w' 5 (upd E 4 g3) (upd (upd B 0 (vals 122 30 D')) 4 (zrow 3 1 (.int .i64 0))) → D' 5 = .slice (some ⟨g3, 0, none⟩) 1 1 → (∀ i, i ≠ 5 → D' i = D i) → Q .normal (F x) w') :
    ((Ybaz.f19.body.bind (regAt 40)).getD .skip).wp Ybaz.prog Q (F f) w := by
  conv => arg 2; whnf
  have hw : IntKind.i64.wrap (0 + 1) = 1 := rfl
  have hlt : ∀ k, k < 4 → E k < w.drew.heap.size := fun k hk => (hS.row k hk).lt
  have hsz : w0.heap.size ≤ w.drew.heap.size := hS.since.size
  have HQ : Hid (∀ x w' g3 D', (∀ s, s < 371 → wrF (opsL (Ybaz.f19.body.bind (regAt 40))) 0 s = none → x s = f s) → St w0 w' 5 (upd E 4 g3) (upd (upd B 0 (vals 122 30 D')) 4 (zrow 3 1 (.int .i64 0))) → D' 5 = .slice (some ⟨g3, 0, none⟩) 1 1 → (∀ i, i ≠ 5 → D' i = D i) → Q .normal (F x) w') := hQ
  have H0 : Hid (St w0 w.drew 4 E (upd B 0 (vals 122 30 D))) := hS.drew.congr (fun _ _ => rfl) (fun k _ => by by_cases e : k = 0; (subst e; rw [upd_same, hb0']); rw [upd_other _ _ e])
  clear hS hQ
  refine region_frm hF (γ := (Nat → Nat)) (fun op9 g => match op9 with
    | 0 => .pointer (some ⟨E 0, 0, none⟩)
    | 1 => .int .i64 0
    | 2 => .int .i64 1
    | 3 => .slice (some ⟨g 3, 0, none⟩) 1 1
    | 4 => .pointer (some ⟨E 0, 0, none⟩)
    | 5 => .pointer (some ⟨E 0, 5, none⟩)
    | 6 => undef
    | _ => undef) (fun l g w' => (∃ D', (∀ i, i ≠ 5 → D' i = D i) ∧ St w0 w' 4 E (upd B 0 (vals 122 30 D')) ∧ (l 6 = true → D' 5 = .slice (some ⟨g 3, 0, none⟩) 1 1)) ∧ Mk w.drew w' l [3] g (fun j => match j with
      | 3 => zrow 3 1 (.int .i64 0)
      | _ => zrow 0 0 undef)) (fun _ => 0) (by kernel_rfl) (by kernel_rfl) ⟨⟨D, (fun _ _ => rfl), H0.out, fun h => (by cases h)⟩, Mk.start _ _ _ _⟩ ?_ ?_
  · refine ⟨?_, ?_, ?_, ?_, ?_, ?_, ?_, trivial⟩
    · intro l g a w' K hp hc hl hG hM hK
      have e7 : a.eval (.tmp 7) = .pointer (some ⟨E 1, 0, none⟩) := (hG.oldF hF 7 (by kernel_rfl) (by omega)).trans h7
      have hM' : (∃ D', (∀ i, i ≠ 5 → D' i = D i) ∧ St w0 w' 4 E (upd B 0 (vals 122 30 D')) ∧ ((upd l 0 true) 6 = true → D' 5 = .slice (some ⟨g 3, 0, none⟩) 1 1)) ∧ Mk w.drew w' (upd l 0 true) [3] g (fun j => match j with
            | 3 => zrow 3 1 (.int .i64 0)
            | _ => zrow 0 0 undef) := ⟨hM.1, hM.2.done 0 (by decide)⟩
      have hM9 := hM'
      obtain ⟨⟨D9, hq9, hS9, hr9⟩, hk9⟩ := hM9
      have kb := hS9.box (k := 1) (by omega) (show upd B 0 _ 1 = _ by rw [upd_other _ _ (by omega)]; exact hb1)
      clear hS9 hq9 hr9 hk9
      clear hc hp hG hM
      unfold Oper.wp; generalize a.eval = ρ at *; go_simp; exact hK g w' (fun _ _ => rfl) hM'
    · intro l g a w' K hp hc hl hG hM hK
      have e1 : a.eval (.tmp 1) = .int .i64 0 := (hG.oldF hF 1 (by kernel_rfl) (by omega)).trans h1
      have hM' : (∃ D', (∀ i, i ≠ 5 → D' i = D i) ∧ St w0 w' 4 E (upd B 0 (vals 122 30 D')) ∧ ((upd l 1 true) 6 = true → D' 5 = .slice (some ⟨g 3, 0, none⟩) 1 1)) ∧ Mk w.drew w' (upd l 1 true) [3] g (fun j => match j with
            | 3 => zrow 3 1 (.int .i64 0)
            | _ => zrow 0 0 undef) := ⟨hM.1, hM.2.done 1 (by decide)⟩
      clear hc hp hG hM
      unfold Oper.wp; generalize a.eval = ρ at *; go_simp; exact hK g w' (fun _ _ => rfl) hM'
    · intro l g a w' K hp hc hl hG hM hK
      have e217 : a.eval (.tmp 217) = .int .i64 0 := hG.of 217 1 (by kernel_rfl) (preAt hc 7 _ hp (by kernel_rfl))
      have ec : ∀ v, a.eval (.const v) = v := fun _ => rfl
      have hM' : (∃ D', (∀ i, i ≠ 5 → D' i = D i) ∧ St w0 w' 4 E (upd B 0 (vals 122 30 D')) ∧ ((upd l 2 true) 6 = true → D' 5 = .slice (some ⟨g 3, 0, none⟩) 1 1)) ∧ Mk w.drew w' (upd l 2 true) [3] g (fun j => match j with
            | 3 => zrow 3 1 (.int .i64 0)
            | _ => zrow 0 0 undef) := ⟨hM.1, hM.2.done 2 (by decide)⟩
      clear hc hp hG hM
      unfold Oper.wp; generalize a.eval = ρ at *; go_simp; exact hK g w' (fun _ _ => rfl) hM'
    · intro l g a w' K hp hc hl hG hM hK
      have e218 : a.eval (.tmp 218) = .int .i64 1 := hG.of 218 2 (by kernel_rfl) (preAt hc 7 _ hp (by kernel_rfl))
      refine op_make mty46 (.tmp 218) (.tmp 218) rfl 1 1 e218 e218 (by omega) (by omega) ?_
      obtain ⟨⟨D', hkp, hS, m6⟩, hk⟩ := hM
      refine hK (upd g 3 w'.heap.size) _ (fun i hi => by
              match i, hi with
              | 0, _ => rfl
              | 1, _ => rfl
              | 2, _ => rfl
              | 3, hi => exact absurd hi (by rw [hl]; decide)
              | 4, _ => rfl
              | 5, _ => rfl
              | 6, _ => rfl
              | _ + 7, _ => rfl) ⟨⟨D', hkp, hS.alloc _, ?_⟩, hk.make 3 hl _ (rowOk_z _ _ _ _)⟩
      · intro hx; rw [upd_other _ _ (by omega)] at hx; exact absurd hx (by rw [hc.not 6 7 hl (by kernel_rfl)]; decide)
    · intro l g a w' K hp hc hl hG hM hK
      have e216 : a.eval (.tmp 216) = .pointer (some ⟨E 0, 0, none⟩) := hG.of 216 0 (by kernel_rfl) (preAt hc 7 _ hp (by kernel_rfl))
      have hM' : (∃ D', (∀ i, i ≠ 5 → D' i = D i) ∧ St w0 w' 4 E (upd B 0 (vals 122 30 D')) ∧ ((upd l 4 true) 6 = true → D' 5 = .slice (some ⟨g 3, 0, none⟩) 1 1)) ∧ Mk w.drew w' (upd l 4 true) [3] g (fun j => match j with
            | 3 => zrow 3 1 (.int .i64 0)
            | _ => zrow 0 0 undef) := ⟨hM.1, hM.2.done 4 (by decide)⟩
      clear hc hp hG hM
      unfold Oper.wp; generalize a.eval = ρ at *; go_simp; exact hK g w' (fun _ _ => rfl) hM'
    · intro l g a w' K hp hc hl hG hM hK
      have e220 : a.eval (.tmp 220) = .pointer (some ⟨E 0, 0, none⟩) := hG.of 220 4 (by kernel_rfl) (preAt hc 7 _ hp (by kernel_rfl))
      have hM' : (∃ D', (∀ i, i ≠ 5 → D' i = D i) ∧ St w0 w' 4 E (upd B 0 (vals 122 30 D')) ∧ ((upd l 5 true) 6 = true → D' 5 = .slice (some ⟨g 3, 0, none⟩) 1 1)) ∧ Mk w.drew w' (upd l 5 true) [3] g (fun j => match j with
            | 3 => zrow 3 1 (.int .i64 0)
            | _ => zrow 0 0 undef) := ⟨hM.1, hM.2.done 5 (by decide)⟩
      clear hc hp hG hM
      unfold Oper.wp; generalize a.eval = ρ at *; go_simp; exact hK g w' (fun _ _ => rfl) hM'
    · intro l g a w' K hp hc hl hG hM hK
      have e221 : a.eval (.tmp 221) = .pointer (some ⟨E 0, 5, none⟩) := hG.of 221 5 (by kernel_rfl) (preAt hc 7 _ hp (by kernel_rfl))
      have e219 : a.eval (.tmp 219) = .slice (some ⟨g 3, 0, none⟩) 1 1 := hG.of 219 3 (by kernel_rfl) (preAt hc 7 _ hp (by kernel_rfl))
      obtain ⟨⟨D', hkp, hS, m6⟩, hk⟩ := hM
      have hS' := hS.setVal (k := 0) (by omega) (upd_same _ _ _) 5 (.slice (some ⟨g 3, 0, none⟩) 1 1)
      have kc := hS.valAt (k := 0) (by omega) (upd_same _ _ _) (i := 5) (by omega)
      have kf := hS.frz 0 (by omega) 5
      rw [upd_upd] at hS'
      have hk' := hk.set (b := E 0) (hlt 0 (by omega)) 5 (.slice (some ⟨g 3, 0, none⟩) 1 1)
      have fin := hK g (w'.setCell ⟨E 0, 5, none⟩ (.slice (some ⟨g 3, 0, none⟩) 1 1)) (fun _ _ => rfl) ⟨⟨_, fun i q0 => (upd_other _ _ q0).trans (hkp i q0), hS', fun _ => upd_same _ _ _⟩, hk'.done 6 (by decide)⟩
      clear hK hc hp hG hS hS' hk hk' m6
      unfold Oper.wp; generalize a.eval = ρ at *; go_simp; exact fin
  · intro l g x w' hl hv ho hM
    obtain ⟨⟨D', hkp, hS, m6⟩, hk⟩ := hM
    have all : ∀ i, i < 7 → l i = true := hl
    obtain ⟨p3, r3⟩ := hk.row 3 (by decide) (all 3 (by omega))
    have s0 := hS.add (g 3) _ r3 (by omega) (fun k hk => by
      have := hlt k (by omega)
      omega)
    exact HQ.out x w' (g 3) D' (fun s hs hw => ho s hs hw) s0 (m6 (all 6 (by omega))) hkp
set_option maxHeartbeats 4000000 in
set_option maxRecDepth 100000 in
theorem l13 {F : (Nat → Value) → Act} (hF : Fr 371 F) {w0 w : World} {E : Nat → Nat} {B : Nat → Lb} {D : Nat → Value} {f : Nat → Value} {Q : Exit → Act → World → Prop} {n : Nat} (hn : n ≤ 100000) (h11 : f 11 = .int .i64 (n : Nat)) (hb1 : B 1 = bx 74 (.pointer (some ⟨E 0, 0, none⟩)))
    (hS : St w0 w 2 E B) (hb0' : B 0 = vals 122 30 D) (h7 : f 7 = .pointer (some ⟨E 1, 0, none⟩))
    (hQ : ∀ x w' g3 D', (∀ s, s < 371 → wrF (opsL (Ybaz.f19.body.bind (regAt 13))) 0 s = none → x s = f s) → St w0 w' 3 (upd E 2 g3) (upd (upd B 0 (vals 122 30 D')) 2 (zrow 3 (n + 1) (.int .i64 0))) → D' 3 = .slice (some ⟨g3, 0, none⟩) (n + 1) (n + 1) → (∀ i, i ≠ 3 → D' i = D i) → Q .normal (F x) w') :
    ((Ybaz.f19.body.bind (regAt 13)).getD .skip).wp Ybaz.prog Q (F f) w := by
  conv => arg 2; whnf
  have hw : IntKind.i64.wrap ((n : Int) + 1) = (n : Int) + 1 := by rw [IntKind.wrap_i64]; omega
  have hlt : ∀ k, k < 2 → E k < w.drew.heap.size := fun k hk => (hS.row k hk).lt
  have hsz : w0.heap.size ≤ w.drew.heap.size := hS.since.size
  have HQ : Hid (∀ x w' g3 D', (∀ s, s < 371 → wrF (opsL (Ybaz.f19.body.bind (regAt 13))) 0 s = none → x s = f s) → St w0 w' 3 (upd E 2 g3) (upd (upd B 0 (vals 122 30 D')) 2 (zrow 3 (n + 1) (.int .i64 0))) → D' 3 = .slice (some ⟨g3, 0, none⟩) (n + 1) (n + 1) → (∀ i, i ≠ 3 → D' i = D i) → Q .normal (F x) w') := hQ
  have H0 : Hid (St w0 w.drew 2 E (upd B 0 (vals 122 30 D))) := hS.drew.congr (fun _ _ => rfl) (fun k _ => by by_cases e : k = 0; (subst e; rw [upd_same, hb0']); rw [upd_other _ _ e])
  clear hS hQ
  refine region_frm hF (γ := (Nat → Nat)) (fun op9 g => match op9 with
    | 0 => .pointer (some ⟨E 0, 0, none⟩)
    | 1 => .int .i64 (n : Nat)
    | 2 => .int .i64 ((n : Int) + 1)
    | 3 => .slice (some ⟨g 3, 0, none⟩) (n + 1) (n + 1)
    | 4 => .pointer (some ⟨E 0, 0, none⟩)
    | 5 => .pointer (some ⟨E 0, 3, none⟩)
    | 6 => undef
    | _ => undef) (fun l g w' => (∃ D', (∀ i, i ≠ 3 → D' i = D i) ∧ St w0 w' 2 E (upd B 0 (vals 122 30 D')) ∧ (l 6 = true → D' 3 = .slice (some ⟨g 3, 0, none⟩) (n + 1) (n + 1))) ∧ Mk w.drew w' l [3] g (fun j => match j with
      | 3 => zrow 3 (n + 1) (.int .i64 0)
      | _ => zrow 0 0 undef)) (fun _ => 0) (by kernel_rfl) (by kernel_rfl) ⟨⟨D, (fun _ _ => rfl), H0.out, fun h => (by cases h)⟩, Mk.start _ _ _ _⟩ ?_ ?_
  · refine ⟨?_, ?_, ?_, ?_, ?_, ?_, ?_, trivial⟩
    · intro l g a w' K hp hc hl hG hM hK
      have e7 : a.eval (.tmp 7) = .pointer (some ⟨E 1, 0, none⟩) := (hG.oldF hF 7 (by kernel_rfl) (by omega)).trans h7
      have hM' : (∃ D', (∀ i, i ≠ 3 → D' i = D i) ∧ St w0 w' 2 E (upd B 0 (vals 122 30 D')) ∧ ((upd l 0 true) 6 = true → D' 3 = .slice (some ⟨g 3, 0, none⟩) (n + 1) (n + 1))) ∧ Mk w.drew w' (upd l 0 true) [3] g (fun j => match j with
            | 3 => zrow 3 (n + 1) (.int .i64 0)
            | _ => zrow 0 0 undef) := ⟨hM.1, hM.2.done 0 (by decide)⟩
      have hM9 := hM'
      obtain ⟨⟨D9, hq9, hS9, hr9⟩, hk9⟩ := hM9
      have kb := hS9.box (k := 1) (by omega) (show upd B 0 _ 1 = _ by rw [upd_other _ _ (by omega)]; exact hb1)
      clear hS9 hq9 hr9 hk9
      clear hc hp hG hM
      unfold Oper.wp; generalize a.eval = ρ at *; go_simp; exact hK g w' (fun _ _ => rfl) hM'
    · intro l g a w' K hp hc hl hG hM hK
      have e11 : a.eval (.tmp 11) = .int .i64 (n : Nat) := (hG.oldF hF 11 (by kernel_rfl) (by omega)).trans h11
      have hM' : (∃ D', (∀ i, i ≠ 3 → D' i = D i) ∧ St w0 w' 2 E (upd B 0 (vals 122 30 D')) ∧ ((upd l 1 true) 6 = true → D' 3 = .slice (some ⟨g 3, 0, none⟩) (n + 1) (n + 1))) ∧ Mk w.drew w' (upd l 1 true) [3] g (fun j => match j with
            | 3 => zrow 3 (n + 1) (.int .i64 0)
            | _ => zrow 0 0 undef) := ⟨hM.1, hM.2.done 1 (by decide)⟩
      clear hc hp hG hM
      unfold Oper.wp; generalize a.eval = ρ at *; go_simp; exact hK g w' (fun _ _ => rfl) hM'
    · intro l g a w' K hp hc hl hG hM hK
      have e93 : a.eval (.tmp 93) = .int .i64 (n : Nat) := hG.of 93 1 (by kernel_rfl) (preAt hc 7 _ hp (by kernel_rfl))
      have ec : ∀ v, a.eval (.const v) = v := fun _ => rfl
      have hM' : (∃ D', (∀ i, i ≠ 3 → D' i = D i) ∧ St w0 w' 2 E (upd B 0 (vals 122 30 D')) ∧ ((upd l 2 true) 6 = true → D' 3 = .slice (some ⟨g 3, 0, none⟩) (n + 1) (n + 1))) ∧ Mk w.drew w' (upd l 2 true) [3] g (fun j => match j with
            | 3 => zrow 3 (n + 1) (.int .i64 0)
            | _ => zrow 0 0 undef) := ⟨hM.1, hM.2.done 2 (by decide)⟩
      clear hc hp hG hM
      unfold Oper.wp; generalize a.eval = ρ at *; go_simp; exact hK g w' (fun _ _ => rfl) hM'
    · intro l g a w' K hp hc hl hG hM hK
      have e94 : a.eval (.tmp 94) = .int .i64 ((n : Int) + 1) := hG.of 94 2 (by kernel_rfl) (preAt hc 7 _ hp (by kernel_rfl))
      refine op_make mty46 (.tmp 94) (.tmp 94) rfl (n + 1) (n + 1) e94 e94 (by omega) (by omega) ?_
      obtain ⟨⟨D', hkp, hS, m6⟩, hk⟩ := hM
      refine hK (upd g 3 w'.heap.size) _ (fun i hi => by
              match i, hi with
              | 0, _ => rfl
              | 1, _ => rfl
              | 2, _ => rfl
              | 3, hi => exact absurd hi (by rw [hl]; decide)
              | 4, _ => rfl
              | 5, _ => rfl
              | 6, _ => rfl
              | _ + 7, _ => rfl) ⟨⟨D', hkp, hS.alloc _, ?_⟩, hk.make 3 hl _ (rowOk_z _ _ _ _)⟩
      · intro hx; rw [upd_other _ _ (by omega)] at hx; exact absurd hx (by rw [hc.not 6 7 hl (by kernel_rfl)]; decide)
    · intro l g a w' K hp hc hl hG hM hK
      have e92 : a.eval (.tmp 92) = .pointer (some ⟨E 0, 0, none⟩) := hG.of 92 0 (by kernel_rfl) (preAt hc 7 _ hp (by kernel_rfl))
      have hM' : (∃ D', (∀ i, i ≠ 3 → D' i = D i) ∧ St w0 w' 2 E (upd B 0 (vals 122 30 D')) ∧ ((upd l 4 true) 6 = true → D' 3 = .slice (some ⟨g 3, 0, none⟩) (n + 1) (n + 1))) ∧ Mk w.drew w' (upd l 4 true) [3] g (fun j => match j with
            | 3 => zrow 3 (n + 1) (.int .i64 0)
            | _ => zrow 0 0 undef) := ⟨hM.1, hM.2.done 4 (by decide)⟩
      clear hc hp hG hM
      unfold Oper.wp; generalize a.eval = ρ at *; go_simp; exact hK g w' (fun _ _ => rfl) hM'
    · intro l g a w' K hp hc hl hG hM hK
      have e96 : a.eval (.tmp 96) = .pointer (some ⟨E 0, 0, none⟩) := hG.of 96 4 (by kernel_rfl) (preAt hc 7 _ hp (by kernel_rfl))
      have hM' : (∃ D', (∀ i, i ≠ 3 → D' i = D i) ∧ St w0 w' 2 E (upd B 0 (vals 122 30 D')) ∧ ((upd l 5 true) 6 = true → D' 3 = .slice (some ⟨g 3, 0, none⟩) (n + 1) (n + 1))) ∧ Mk w.drew w' (upd l 5 true) [3] g (fun j => match j with
            | 3 => zrow 3 (n + 1) (.int .i64 0)
            | _ => zrow 0 0 undef) := ⟨hM.1, hM.2.done 5 (by decide)⟩
      clear hc hp hG hM
      unfold Oper.wp; generalize a.eval = ρ at *; go_simp; exact hK g w' (fun _ _ => rfl) hM'
    · intro l g a w' K hp hc hl hG hM hK
      have e97 : a.eval (.tmp 97) = .pointer (some ⟨E 0, 3, none⟩) := hG.of 97 5 (by kernel_rfl) (preAt hc 7 _ hp (by kernel_rfl))
      have e95 : a.eval (.tmp 95) = .slice (some ⟨g 3, 0, none⟩) (n + 1) (n + 1) := hG.of 95 3 (by kernel_rfl) (preAt hc 7 _ hp (by kernel_rfl))
      obtain ⟨⟨D', hkp, hS, m6⟩, hk⟩ := hM
      have hS' := hS.setVal (k := 0) (by omega) (upd_same _ _ _) 3 (.slice (some ⟨g 3, 0, none⟩) (n + 1) (n + 1))
      have kc := hS.valAt (k := 0) (by omega) (upd_same _ _ _) (i := 3) (by omega)
      have kf := hS.frz 0 (by omega) 3
      rw [upd_upd] at hS'
      have hk' := hk.set (b := E 0) (hlt 0 (by omega)) 3 (.slice (some ⟨g 3, 0, none⟩) (n + 1) (n + 1))
      have fin := hK g (w'.setCell ⟨E 0, 3, none⟩ (.slice (some ⟨g 3, 0, none⟩) (n + 1) (n + 1))) (fun _ _ => rfl) ⟨⟨_, fun i q0 => (upd_other _ _ q0).trans (hkp i q0), hS', fun _ => upd_same _ _ _⟩, hk'.done 6 (by decide)⟩
      clear hK hc hp hG hS hS' hk hk' m6
      unfold Oper.wp; generalize a.eval = ρ at *; go_simp; exact fin
  · intro l g x w' hl hv ho hM
    obtain ⟨⟨D', hkp, hS, m6⟩, hk⟩ := hM
    have all : ∀ i, i < 7 → l i = true := hl
    obtain ⟨p3, r3⟩ := hk.row 3 (by decide) (all 3 (by omega))
    have s0 := hS.add (g 3) _ r3 (by omega) (fun k hk => by
      have := hlt k (by omega)
      omega)
    exact HQ.out x w' (g 3) D' (fun s hs hw => ho s hs hw) s0 (m6 (all 6 (by omega))) hkp
set_option maxHeartbeats 4000000 in
set_option maxRecDepth 100000 in
theorem l28 {F : (Nat → Value) → Act} (hF : Fr 371 F) {w0 w : World} {E : Nat → Nat} {B : Nat → Lb} {D : Nat → Value} {f : Nat → Value} {Q : Exit → Act → World → Prop} {n L : Nat} {s : Nat → Int} (hL : L ≤ 100000000) (h11 : f 11 = .int .i64 (n : Nat)) (hb2 : B 2 = arr (n + 1) s) (hSn : s n = (L : Nat)) (hd3 : D 3 = .slice (some ⟨E 2, 0, none⟩) (n + 1) (n + 1)) (hb1 : B 1 = bx 74 (.pointer (some ⟨E 0, 0, none⟩)))
    (hS : St w0 w 3 E B) (hb0' : B 0 = vals 122 30 D) (h7 : f 7 = .pointer (some ⟨E 1, 0, none⟩))
    (hQ : ∀ x w' g8 D', (∀ s, s < 371 → wrF (opsL (Ybaz.f19.body.bind (regAt 28))) 0 s = none → x s = f s) → St w0 w' 4 (upd E 3 g8) (upd (upd B 0 (vals 122 30 D')) 3 (zrow 3 L (.int .i64 0))) → D' 4 = .slice (some ⟨g8, 0, none⟩) L L → (∀ i, i ≠ 4 → D' i = D i) → Q .normal (F x) w') :
    ((Ybaz.f19.body.bind (regAt 28)).getD .skip).wp Ybaz.prog Q (F f) w := by
  conv => arg 2; whnf
  have hnz : (n : Int) < (n : Int) + 1 := by omega
  have hlt : ∀ k, k < 3 → E k < w.drew.heap.size := fun k hk => (hS.row k hk).lt
  have hsz : w0.heap.size ≤ w.drew.heap.size := hS.since.size
  have HQ : Hid (∀ x w' g8 D', (∀ s, s < 371 → wrF (opsL (Ybaz.f19.body.bind (regAt 28))) 0 s = none → x s = f s) → St w0 w' 4 (upd E 3 g8) (upd (upd B 0 (vals 122 30 D')) 3 (zrow 3 L (.int .i64 0))) → D' 4 = .slice (some ⟨g8, 0, none⟩) L L → (∀ i, i ≠ 4 → D' i = D i) → Q .normal (F x) w') := hQ
  have H0 : Hid (St w0 w.drew 3 E (upd B 0 (vals 122 30 D))) := hS.drew.congr (fun _ _ => rfl) (fun k _ => by by_cases e : k = 0; (subst e; rw [upd_same, hb0']); rw [upd_other _ _ e])
  clear hS hQ
  refine region_frm hF (γ := (Nat → Nat)) (fun op9 g => match op9 with
    | 0 => .pointer (some ⟨E 0, 0, none⟩)
    | 1 => .pointer (some ⟨E 0, 0, none⟩)
    | 2 => .pointer (some ⟨E 0, 0, none⟩)
    | 3 => .pointer (some ⟨E 0, 3, none⟩)
    | 4 => .slice (some ⟨E 2, 0, none⟩) (n + 1) (n + 1)
    | 5 => .int .i64 (n : Nat)
    | 6 => .pointer (some ⟨E 2, n, none⟩)
    | 7 => .int .i64 (L : Nat)
    | 8 => .slice (some ⟨g 8, 0, none⟩) L L
    | 9 => .pointer (some ⟨E 0, 0, none⟩)
    | 10 => .pointer (some ⟨E 0, 4, none⟩)
    | 11 => undef
    | _ => undef) (fun l g w' => (∃ D', (∀ i, i ≠ 4 → D' i = D i) ∧ St w0 w' 3 E (upd B 0 (vals 122 30 D')) ∧ (l 11 = true → D' 4 = .slice (some ⟨g 8, 0, none⟩) L L)) ∧ Mk w.drew w' l [8] g (fun j => match j with
      | 8 => zrow 3 L (.int .i64 0)
      | _ => zrow 0 0 undef)) (fun _ => 0) (by kernel_rfl) (by kernel_rfl) ⟨⟨D, (fun _ _ => rfl), H0.out, fun h => (by cases h)⟩, Mk.start _ _ _ _⟩ ?_ ?_
  · refine ⟨?_, ?_, ?_, ?_, ?_, ?_, ?_, ?_, ?_, ?_, ?_, ?_, trivial⟩
    · intro l g a w' K hp hc hl hG hM hK
      have e7 : a.eval (.tmp 7) = .pointer (some ⟨E 1, 0, none⟩) := (hG.oldF hF 7 (by kernel_rfl) (by omega)).trans h7
      have hM' : (∃ D', (∀ i, i ≠ 4 → D' i = D i) ∧ St w0 w' 3 E (upd B 0 (vals 122 30 D')) ∧ ((upd l 0 true) 11 = true → D' 4 = .slice (some ⟨g 8, 0, none⟩) L L)) ∧ Mk w.drew w' (upd l 0 true) [8] g (fun j => match j with
            | 8 => zrow 3 L (.int .i64 0)
            | _ => zrow 0 0 undef) := ⟨hM.1, hM.2.done 0 (by decide)⟩
      have hM9 := hM'
      obtain ⟨⟨D9, hq9, hS9, hr9⟩, hk9⟩ := hM9
      have kb := hS9.box (k := 1) (by omega) (show upd B 0 _ 1 = _ by rw [upd_other _ _ (by omega)]; exact hb1)
      clear hS9 hq9 hr9 hk9
      clear hc hp hG hM
      unfold Oper.wp; generalize a.eval = ρ at *; go_simp; exact hK g w' (fun _ _ => rfl) hM'
    · intro l g a w' K hp hc hl hG hM hK
      have e7 : a.eval (.tmp 7) = .pointer (some ⟨E 1, 0, none⟩) := (hG.oldF hF 7 (by kernel_rfl) (by omega)).trans h7
      have hM' : (∃ D', (∀ i, i ≠ 4 → D' i = D i) ∧ St w0 w' 3 E (upd B 0 (vals 122 30 D')) ∧ ((upd l 1 true) 11 = true → D' 4 = .slice (some ⟨g 8, 0, none⟩) L L)) ∧ Mk w.drew w' (upd l 1 true) [8] g (fun j => match j with
            | 8 => zrow 3 L (.int .i64 0)
            | _ => zrow 0 0 undef) := ⟨hM.1, hM.2.done 1 (by decide)⟩
      have hM9 := hM'
      obtain ⟨⟨D9, hq9, hS9, hr9⟩, hk9⟩ := hM9
      have kb := hS9.box (k := 1) (by omega) (show upd B 0 _ 1 = _ by rw [upd_other _ _ (by omega)]; exact hb1)
      clear hS9 hq9 hr9 hk9
      clear hc hp hG hM
      unfold Oper.wp; generalize a.eval = ρ at *; go_simp; exact hK g w' (fun _ _ => rfl) hM'
    · intro l g a w' K hp hc hl hG hM hK
      have e154 : a.eval (.tmp 154) = .pointer (some ⟨E 0, 0, none⟩) := hG.of 154 1 (by kernel_rfl) (preAt hc 12 _ hp (by kernel_rfl))
      have hM' : (∃ D', (∀ i, i ≠ 4 → D' i = D i) ∧ St w0 w' 3 E (upd B 0 (vals 122 30 D')) ∧ ((upd l 2 true) 11 = true → D' 4 = .slice (some ⟨g 8, 0, none⟩) L L)) ∧ Mk w.drew w' (upd l 2 true) [8] g (fun j => match j with
            | 8 => zrow 3 L (.int .i64 0)
            | _ => zrow 0 0 undef) := ⟨hM.1, hM.2.done 2 (by decide)⟩
      clear hc hp hG hM
      unfold Oper.wp; generalize a.eval = ρ at *; go_simp; exact hK g w' (fun _ _ => rfl) hM'
    · intro l g a w' K hp hc hl hG hM hK
      have e155 : a.eval (.tmp 155) = .pointer (some ⟨E 0, 0, none⟩) := hG.of 155 2 (by kernel_rfl) (preAt hc 12 _ hp (by kernel_rfl))
      have hM' : (∃ D', (∀ i, i ≠ 4 → D' i = D i) ∧ St w0 w' 3 E (upd B 0 (vals 122 30 D')) ∧ ((upd l 3 true) 11 = true → D' 4 = .slice (some ⟨g 8, 0, none⟩) L L)) ∧ Mk w.drew w' (upd l 3 true) [8] g (fun j => match j with
            | 8 => zrow 3 L (.int .i64 0)
            | _ => zrow 0 0 undef) := ⟨hM.1, hM.2.done 3 (by decide)⟩
      clear hc hp hG hM
      unfold Oper.wp; generalize a.eval = ρ at *; go_simp; exact hK g w' (fun _ _ => rfl) hM'
    · intro l g a w' K hp hc hl hG hM hK
      have e156 : a.eval (.tmp 156) = .pointer (some ⟨E 0, 3, none⟩) := hG.of 156 3 (by kernel_rfl) (preAt hc 12 _ hp (by kernel_rfl))
      have hM' : (∃ D', (∀ i, i ≠ 4 → D' i = D i) ∧ St w0 w' 3 E (upd B 0 (vals 122 30 D')) ∧ ((upd l 4 true) 11 = true → D' 4 = .slice (some ⟨g 8, 0, none⟩) L L)) ∧ Mk w.drew w' (upd l 4 true) [8] g (fun j => match j with
            | 8 => zrow 3 L (.int .i64 0)
            | _ => zrow 0 0 undef) := ⟨hM.1, hM.2.done 4 (by decide)⟩
      have hM9 := hM'
      obtain ⟨⟨D9, hq9, hS9, hr9⟩, hk9⟩ := hM9
      have kb := hS9.valAt (k := 0) (by omega) (upd_same _ _ _) (i := 3) (by omega)
      rw [hq9 3 (by omega), hd3] at kb
      clear hS9 hq9 hr9 hk9
      clear hc hp hG hM
      unfold Oper.wp; generalize a.eval = ρ at *; go_simp; exact hK g w' (fun _ _ => rfl) hM'
    · intro l g a w' K hp hc hl hG hM hK
      have e11 : a.eval (.tmp 11) = .int .i64 (n : Nat) := (hG.oldF hF 11 (by kernel_rfl) (by omega)).trans h11
      have hM' : (∃ D', (∀ i, i ≠ 4 → D' i = D i) ∧ St w0 w' 3 E (upd B 0 (vals 122 30 D')) ∧ ((upd l 5 true) 11 = true → D' 4 = .slice (some ⟨g 8, 0, none⟩) L L)) ∧ Mk w.drew w' (upd l 5 true) [8] g (fun j => match j with
            | 8 => zrow 3 L (.int .i64 0)
            | _ => zrow 0 0 undef) := ⟨hM.1, hM.2.done 5 (by decide)⟩
      clear hc hp hG hM
      unfold Oper.wp; generalize a.eval = ρ at *; go_simp; exact hK g w' (fun _ _ => rfl) hM'
    · intro l g a w' K hp hc hl hG hM hK
      have e157 : a.eval (.tmp 157) = .slice (some ⟨E 2, 0, none⟩) (n + 1) (n + 1) := hG.of 157 4 (by kernel_rfl) (preAt hc 12 _ hp (by kernel_rfl))
      have e158 : a.eval (.tmp 158) = .int .i64 (n : Nat) := hG.of 158 5 (by kernel_rfl) (preAt hc 12 _ hp (by kernel_rfl))
      have hM' : (∃ D', (∀ i, i ≠ 4 → D' i = D i) ∧ St w0 w' 3 E (upd B 0 (vals 122 30 D')) ∧ ((upd l 6 true) 11 = true → D' 4 = .slice (some ⟨g 8, 0, none⟩) L L)) ∧ Mk w.drew w' (upd l 6 true) [8] g (fun j => match j with
            | 8 => zrow 3 L (.int .i64 0)
            | _ => zrow 0 0 undef) := ⟨hM.1, hM.2.done 6 (by decide)⟩
      clear hc hp hG hM
      unfold Oper.wp; generalize a.eval = ρ at *; go_simp; exact hK g w' (fun _ _ => rfl) hM'
    · intro l g a w' K hp hc hl hG hM hK
      have e159 : a.eval (.tmp 159) = .pointer (some ⟨E 2, n, none⟩) := hG.of 159 6 (by kernel_rfl) (preAt hc 12 _ hp (by kernel_rfl))
      have hM' : (∃ D', (∀ i, i ≠ 4 → D' i = D i) ∧ St w0 w' 3 E (upd B 0 (vals 122 30 D')) ∧ ((upd l 7 true) 11 = true → D' 4 = .slice (some ⟨g 8, 0, none⟩) L L)) ∧ Mk w.drew w' (upd l 7 true) [8] g (fun j => match j with
            | 8 => zrow 3 L (.int .i64 0)
            | _ => zrow 0 0 undef) := ⟨hM.1, hM.2.done 7 (by decide)⟩
      have hM9 := hM'
      obtain ⟨⟨D9, hq9, hS9, hr9⟩, hk9⟩ := hM9
      have kb := hS9.arr (k := 2) (by omega) (show upd B 0 _ 2 = _ by rw [upd_other _ _ (by omega)]; exact hb2) (i := n) (by omega)
      rw [hSn] at kb
      clear hS9 hq9 hr9 hk9
      clear hc hp hG hM
      unfold Oper.wp; generalize a.eval = ρ at *; go_simp; exact hK g w' (fun _ _ => rfl) hM'
    · intro l g a w' K hp hc hl hG hM hK
      have e160 : a.eval (.tmp 160) = .int .i64 (L : Nat) := hG.of 160 7 (by kernel_rfl) (preAt hc 12 _ hp (by kernel_rfl))
      refine op_make mty46 (.tmp 160) (.tmp 160) rfl L L e160 e160 (by omega) (by omega) ?_
      obtain ⟨⟨D', hkp, hS, m11⟩, hk⟩ := hM
      refine hK (upd g 8 w'.heap.size) _ (fun i hi => by
              match i, hi with
              | 0, _ => rfl
              | 1, _ => rfl
              | 2, _ => rfl
              | 3, _ => rfl
              | 4, _ => rfl
              | 5, _ => rfl
              | 6, _ => rfl
              | 7, _ => rfl
              | 8, hi => exact absurd hi (by rw [hl]; decide)
              | 9, _ => rfl
              | 10, _ => rfl
              | 11, _ => rfl
              | _ + 12, _ => rfl) ⟨⟨D', hkp, hS.alloc _, ?_⟩, hk.make 8 hl _ (rowOk_z _ _ _ _)⟩
      · intro hx; rw [upd_other _ _ (by omega)] at hx; exact absurd hx (by rw [hc.not 11 12 hl (by kernel_rfl)]; decide)
    · intro l g a w' K hp hc hl hG hM hK
      have e153 : a.eval (.tmp 153) = .pointer (some ⟨E 0, 0, none⟩) := hG.of 153 0 (by kernel_rfl) (preAt hc 12 _ hp (by kernel_rfl))
      have hM' : (∃ D', (∀ i, i ≠ 4 → D' i = D i) ∧ St w0 w' 3 E (upd B 0 (vals 122 30 D')) ∧ ((upd l 9 true) 11 = true → D' 4 = .slice (some ⟨g 8, 0, none⟩) L L)) ∧ Mk w.drew w' (upd l 9 true) [8] g (fun j => match j with
            | 8 => zrow 3 L (.int .i64 0)
            | _ => zrow 0 0 undef) := ⟨hM.1, hM.2.done 9 (by decide)⟩
      clear hc hp hG hM
      unfold Oper.wp; generalize a.eval = ρ at *; go_simp; exact hK g w' (fun _ _ => rfl) hM'
    · intro l g a w' K hp hc hl hG hM hK
      have e162 : a.eval (.tmp 162) = .pointer (some ⟨E 0, 0, none⟩) := hG.of 162 9 (by kernel_rfl) (preAt hc 12 _ hp (by kernel_rfl))
      have hM' : (∃ D', (∀ i, i ≠ 4 → D' i = D i) ∧ St w0 w' 3 E (upd B 0 (vals 122 30 D')) ∧ ((upd l 10 true) 11 = true → D' 4 = .slice (some ⟨g 8, 0, none⟩) L L)) ∧ Mk w.drew w' (upd l 10 true) [8] g (fun j => match j with
            | 8 => zrow 3 L (.int .i64 0)
            | _ => zrow 0 0 undef) := ⟨hM.1, hM.2.done 10 (by decide)⟩
      clear hc hp hG hM
      unfold Oper.wp; generalize a.eval = ρ at *; go_simp; exact hK g w' (fun _ _ => rfl) hM'
    · intro l g a w' K hp hc hl hG hM hK
      have e163 : a.eval (.tmp 163) = .pointer (some ⟨E 0, 4, none⟩) := hG.of 163 10 (by kernel_rfl) (preAt hc 12 _ hp (by kernel_rfl))
      have e161 : a.eval (.tmp 161) = .slice (some ⟨g 8, 0, none⟩) L L := hG.of 161 8 (by kernel_rfl) (preAt hc 12 _ hp (by kernel_rfl))
      obtain ⟨⟨D', hkp, hS, m11⟩, hk⟩ := hM
      have hS' := hS.setVal (k := 0) (by omega) (upd_same _ _ _) 4 (.slice (some ⟨g 8, 0, none⟩) L L)
      have kc := hS.valAt (k := 0) (by omega) (upd_same _ _ _) (i := 4) (by omega)
      have kf := hS.frz 0 (by omega) 4
      rw [upd_upd] at hS'
      have hk' := hk.set (b := E 0) (hlt 0 (by omega)) 4 (.slice (some ⟨g 8, 0, none⟩) L L)
      have fin := hK g (w'.setCell ⟨E 0, 4, none⟩ (.slice (some ⟨g 8, 0, none⟩) L L)) (fun _ _ => rfl) ⟨⟨_, fun i q0 => (upd_other _ _ q0).trans (hkp i q0), hS', fun _ => upd_same _ _ _⟩, hk'.done 11 (by decide)⟩
      clear hK hc hp hG hS hS' hk hk' m11
      unfold Oper.wp; generalize a.eval = ρ at *; go_simp; exact fin
  · intro l g x w' hl hv ho hM
    obtain ⟨⟨D', hkp, hS, m11⟩, hk⟩ := hM
    have all : ∀ i, i < 12 → l i = true := hl
    obtain ⟨p8, r8⟩ := hk.row 8 (by decide) (all 8 (by omega))
    have s0 := hS.add (g 8) _ r8 (by omega) (fun k hk => by
      have := hlt k (by omega)
      omega)
    exact HQ.out x w' (g 8) D' (fun s hs hw => ho s hs hw) s0 (m11 (all 11 (by omega))) hkp
end Go.Proofs.YbulkexmzaGreat
