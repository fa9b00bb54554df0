/-
  Liveness (19): from region 61 on.
-/
import Derived.Test.YbulkexmzaGreatLe
namespace Go.Proofs.YbulkexmzaGreat
open Go.RowKit
attribute [local go_sem] fup_at

/-- What newDominance asks of the predecessors, out of two registers. -/
theorem pr_of {w0 w : World} {E : Nat → Nat} {B : Nat → Lb} {n L : Nat} {pf : Nat → Nat} (hS : St w0 w 4 E B) (b2 : B 2 = arr (n + 1) (fun b => ((pf b : Nat) : Int))) (b3 : B 3 = ⟨3, L, qn n⟩) (hP : Pf n L pf) : ∃ q0, Pr w n L (E 2) (E 3) pf q0 := by
  have hq : ∀ i, i < L → ∃ z : Nat, w.cell? ⟨E 3, i, none⟩ = some (.int .i64 (z : Nat)) ∧ z < n := fun i hi => by
    obtain ⟨v, h1, h2⟩ := hS.read 3 (by omega) (i := i) (by rw [b3]; exact hi)
    rw [b3] at h2
    obtain ⟨z, rfl, h3⟩ := h2
    exact ⟨z, h1, h3⟩
  classical
  refine ⟨fun i => if h : i < L then Classical.choose (hq i h) else 0, fun i hi => hS.arr (k := 2) (by omega) b2 (by omega), fun i hi => ?_, hP.mono, hP.lim⟩
  simp only [dif_pos hi]
  exact Classical.choose_spec (hq i hi)
set_option maxHeartbeats 4000000 in
set_option maxRecDepth 100000 in
theorem l61 {F : (Nat → Value) → Act} (hF : Fr 371 F) {w0 w : World} {E : Nat → Nat} {B : Nat → Lb} {n L fb : Nat} {pf : Nat → Nat} {D f : Nat → Value} {bk : Nat → Nat} {sc : Nat → Option Nat} {Q : Exit → Act → World → Prop}
    (hC : Cfg w0 fb n bk sc) (hS : St w0 w 4 E B) (b0 : B 0 = vals 122 30 D) (b1 : B 1 = bx 74 (.pointer (some ⟨E 0, 0, none⟩))) (b2 : B 2 = arr (n + 1) (fun b => ((pf b : Nat) : Int))) (b3 : B 3 = ⟨3, L, qn n⟩) (d3 : D 3 = .slice (some ⟨E 2, 0, none⟩) (n + 1) (n + 1)) (d4 : D 4 = .slice (some ⟨E 3, 0, none⟩) L L) (hP : Pf n L pf) (hL : L ≤ 100000000) (hn : n ≤ 100000) (hn1 : 1 ≤ n) (h0 : f 0 = .pointer (some ⟨fb, 0, none⟩)) (h7 : f 7 = .pointer (some ⟨E 1, 0, none⟩))
    (hQ : ∀ x w' D' B' dp gp, (∀ s, s < 371 → wrF (opsL (Ybaz.f19.body.bind (regAt 61))) 0 s = none → x s = f s) → Lw w0 w' E B' n L pf D' dp gp → Q .normal (F x) w') :
    ((Ybaz.f19.body.bind (regAt 61)).getD .skip).wp Ybaz.prog Q (F f) w := by
  conv => arg 2; whnf
  have hlt : ∀ k, k < 4 → E k < w.drew.heap.size := fun k hk => (hS.row k hk).lt
  obtain ⟨q0, hpr⟩ := pr_of hS.drew b2 b3 hP
  have HC : Hid _ := newDom_any (w0 := w.drew) (fb := fb) (pb := E 2) (qb := E 3) (hC.since hS.drew.since) hpr hL hn hn1
  have H0 : Hid (St w0 w.drew 4 E B) := hS.drew
  have HQ : Hid (∀ x w' D' B' dp gp, (∀ s, s < 371 → wrF (opsL (Ybaz.f19.body.bind (regAt 61))) 0 s = none → x s = f s) → Lw w0 w' E B' n L pf D' dp gp → Q .normal (F x) w') := hQ
  clear hS hQ
  refine region_frm hF (γ := Nat) (fun op9 g => match op9 with
    | 0 => .pointer (some ⟨E 0, 0, none⟩)
    | 1 => .pointer (some ⟨fb, 0, none⟩)
    | 2 => .pointer (some ⟨E 0, 0, none⟩)
    | 3 => .pointer (some ⟨E 0, 0, none⟩)
    | 4 => .pointer (some ⟨E 0, 3, none⟩)
    | 5 => .slice (some ⟨E 2, 0, none⟩) (n + 1) (n + 1)
    | 6 => .pointer (some ⟨E 0, 0, none⟩)
    | 7 => .pointer (some ⟨E 0, 0, none⟩)
    | 8 => .pointer (some ⟨E 0, 4, none⟩)
    | 9 => .slice (some ⟨E 3, 0, none⟩) L L
    | 10 => .pointer (some ⟨g, 0, none⟩)
    | 11 => .pointer (some ⟨E 0, 0, none⟩)
    | 12 => .pointer (some ⟨E 0, 7, none⟩)
    | 13 => undef
    | _ => undef) (fun l g w' => (l 10 = false → w' = w.drew) ∧ (l 13 = false → St w0 w' 4 E B) ∧ (l 10 = true → l 13 = false → DomOk w.drew w' n g) ∧ (l 13 = true → ∃ gp, Lw w0 w' E (upd B 0 (vals 122 30 (upd D 7 (.pointer (some ⟨g, 0, none⟩))))) n L pf (upd D 7 (.pointer (some ⟨g, 0, none⟩))) g gp)) 0 (by kernel_rfl) (by kernel_rfl) ⟨fun _ => rfl, fun _ => H0.out, fun h => (by cases h), fun h => (by cases h)⟩ ?_ ?_
  · refine ⟨?_, ?_, ?_, ?_, ?_, ?_, ?_, ?_, ?_, ?_, ?_, ?_, ?_, ?_, trivial⟩
    · intro l g a w' K hp hc hl hG hM hK
      have e7 : a.eval (.tmp 7) = .pointer (some ⟨E 1, 0, none⟩) := (hG.oldF hF 7 (by kernel_rfl) (by omega)).trans h7
      have hS9 := hM.2.1 (hc.not 13 14 hl (by kernel_rfl))
      have kb := hS9.box (k := 1) (by omega) b1
      have hM' : ((upd l 0 true) 10 = false → w' = w.drew) ∧ ((upd l 0 true) 13 = false → St w0 w' 4 E B) ∧ ((upd l 0 true) 10 = true → (upd l 0 true) 13 = false → DomOk w.drew w' n g) ∧ ((upd l 0 true) 13 = true → ∃ gp, Lw w0 w' E (upd B 0 (vals 122 30 (upd D 7 (.pointer (some ⟨g, 0, none⟩))))) n L pf (upd D 7 (.pointer (some ⟨g, 0, none⟩))) g gp) := hM
      clear hS9
      clear hc hp hG hM
      unfold Oper.wp; generalize a.eval = ρ at *; go_simp; exact hK g w' (fun _ _ => rfl) hM'
    · intro l g a w' K hp hc hl hG hM hK
      have e0 : a.eval (.tmp 0) = .pointer (some ⟨fb, 0, none⟩) := (hG.oldF hF 0 (by kernel_rfl) (by omega)).trans h0
      have hM' : ((upd l 1 true) 10 = false → w' = w.drew) ∧ ((upd l 1 true) 13 = false → St w0 w' 4 E B) ∧ ((upd l 1 true) 10 = true → (upd l 1 true) 13 = false → DomOk w.drew w' n g) ∧ ((upd l 1 true) 13 = true → ∃ gp, Lw w0 w' E (upd B 0 (vals 122 30 (upd D 7 (.pointer (some ⟨g, 0, none⟩))))) n L pf (upd D 7 (.pointer (some ⟨g, 0, none⟩))) g gp) := hM
      clear hc hp hG hM
      unfold Oper.wp; generalize a.eval = ρ at *; go_simp; exact hK g w' (fun _ _ => rfl) hM'
    · intro l g a w' K hp hc hl hG hM hK
      have e7 : a.eval (.tmp 7) = .pointer (some ⟨E 1, 0, none⟩) := (hG.oldF hF 7 (by kernel_rfl) (by omega)).trans h7
      have hS9 := hM.2.1 (hc.not 13 14 hl (by kernel_rfl))
      have kb := hS9.box (k := 1) (by omega) b1
      have hM' : ((upd l 2 true) 10 = false → w' = w.drew) ∧ ((upd l 2 true) 13 = false → St w0 w' 4 E B) ∧ ((upd l 2 true) 10 = true → (upd l 2 true) 13 = false → DomOk w.drew w' n g) ∧ ((upd l 2 true) 13 = true → ∃ gp, Lw w0 w' E (upd B 0 (vals 122 30 (upd D 7 (.pointer (some ⟨g, 0, none⟩))))) n L pf (upd D 7 (.pointer (some ⟨g, 0, none⟩))) g gp) := hM
      clear hS9
      clear hc hp hG hM
      unfold Oper.wp; generalize a.eval = ρ at *; go_simp; exact hK g w' (fun _ _ => rfl) hM'
    · intro l g a w' K hp hc hl hG hM hK
      have e332 : a.eval (.tmp 332) = .pointer (some ⟨E 0, 0, none⟩) := hG.of 332 2 (by kernel_rfl) (preAt hc 14 _ hp (by kernel_rfl))
      have hM' : ((upd l 3 true) 10 = false → w' = w.drew) ∧ ((upd l 3 true) 13 = false → St w0 w' 4 E B) ∧ ((upd l 3 true) 10 = true → (upd l 3 true) 13 = false → DomOk w.drew w' n g) ∧ ((upd l 3 true) 13 = true → ∃ gp, Lw w0 w' E (upd B 0 (vals 122 30 (upd D 7 (.pointer (some ⟨g, 0, none⟩))))) n L pf (upd D 7 (.pointer (some ⟨g, 0, none⟩))) g gp) := hM
      clear hc hp hG hM
      unfold Oper.wp; generalize a.eval = ρ at *; go_simp; exact hK g w' (fun _ _ => rfl) hM'
    · intro l g a w' K hp hc hl hG hM hK
      have e333 : a.eval (.tmp 333) = .pointer (some ⟨E 0, 0, none⟩) := hG.of 333 3 (by kernel_rfl) (preAt hc 14 _ hp (by kernel_rfl))
      have hM' : ((upd l 4 true) 10 = false → w' = w.drew) ∧ ((upd l 4 true) 13 = false → St w0 w' 4 E B) ∧ ((upd l 4 true) 10 = true → (upd l 4 true) 13 = false → DomOk w.drew w' n g) ∧ ((upd l 4 true) 13 = true → ∃ gp, Lw w0 w' E (upd B 0 (vals 122 30 (upd D 7 (.pointer (some ⟨g, 0, none⟩))))) n L pf (upd D 7 (.pointer (some ⟨g, 0, none⟩))) g gp) := hM
      clear hc hp hG hM
      unfold Oper.wp; generalize a.eval = ρ at *; go_simp; exact hK g w' (fun _ _ => rfl) hM'
    · intro l g a w' K hp hc hl hG hM hK
      have e334 : a.eval (.tmp 334) = .pointer (some ⟨E 0, 3, none⟩) := hG.of 334 4 (by kernel_rfl) (preAt hc 14 _ hp (by kernel_rfl))
      have hS9 := hM.2.1 (hc.not 13 14 hl (by kernel_rfl))
      have kb := hS9.valAt (k := 0) (by omega) b0 (i := 3) (by omega)
      rw [d3] at kb
      have hM' : ((upd l 5 true) 10 = false → w' = w.drew) ∧ ((upd l 5 true) 13 = false → St w0 w' 4 E B) ∧ ((upd l 5 true) 10 = true → (upd l 5 true) 13 = false → DomOk w.drew w' n g) ∧ ((upd l 5 true) 13 = true → ∃ gp, Lw w0 w' E (upd B 0 (vals 122 30 (upd D 7 (.pointer (some ⟨g, 0, none⟩))))) n L pf (upd D 7 (.pointer (some ⟨g, 0, none⟩))) g gp) := hM
      clear hS9
      clear hc hp hG hM
      unfold Oper.wp; generalize a.eval = ρ at *; go_simp; exact hK g w' (fun _ _ => rfl) hM'
    · intro l g a w' K hp hc hl hG hM hK
      have e7 : a.eval (.tmp 7) = .pointer (some ⟨E 1, 0, none⟩) := (hG.oldF hF 7 (by kernel_rfl) (by omega)).trans h7
      have hS9 := hM.2.1 (hc.not 13 14 hl (by kernel_rfl))
      have kb := hS9.box (k := 1) (by omega) b1
      have hM' : ((upd l 6 true) 10 = false → w' = w.drew) ∧ ((upd l 6 true) 13 = false → St w0 w' 4 E B) ∧ ((upd l 6 true) 10 = true → (upd l 6 true) 13 = false → DomOk w.drew w' n g) ∧ ((upd l 6 true) 13 = true → ∃ gp, Lw w0 w' E (upd B 0 (vals 122 30 (upd D 7 (.pointer (some ⟨g, 0, none⟩))))) n L pf (upd D 7 (.pointer (some ⟨g, 0, none⟩))) g gp) := hM
      clear hS9
      clear hc hp hG hM
      unfold Oper.wp; generalize a.eval = ρ at *; go_simp; exact hK g w' (fun _ _ => rfl) hM'
    · intro l g a w' K hp hc hl hG hM hK
      have e336 : a.eval (.tmp 336) = .pointer (some ⟨E 0, 0, none⟩) := hG.of 336 6 (by kernel_rfl) (preAt hc 14 _ hp (by kernel_rfl))
      have hM' : ((upd l 7 true) 10 = false → w' = w.drew) ∧ ((upd l 7 true) 13 = false → St w0 w' 4 E B) ∧ ((upd l 7 true) 10 = true → (upd l 7 true) 13 = false → DomOk w.drew w' n g) ∧ ((upd l 7 true) 13 = true → ∃ gp, Lw w0 w' E (upd B 0 (vals 122 30 (upd D 7 (.pointer (some ⟨g, 0, none⟩))))) n L pf (upd D 7 (.pointer (some ⟨g, 0, none⟩))) g gp) := hM
      clear hc hp hG hM
      unfold Oper.wp; generalize a.eval = ρ at *; go_simp; exact hK g w' (fun _ _ => rfl) hM'
    · intro l g a w' K hp hc hl hG hM hK
      have e337 : a.eval (.tmp 337) = .pointer (some ⟨E 0, 0, none⟩) := hG.of 337 7 (by kernel_rfl) (preAt hc 14 _ hp (by kernel_rfl))
      have hM' : ((upd l 8 true) 10 = false → w' = w.drew) ∧ ((upd l 8 true) 13 = false → St w0 w' 4 E B) ∧ ((upd l 8 true) 10 = true → (upd l 8 true) 13 = false → DomOk w.drew w' n g) ∧ ((upd l 8 true) 13 = true → ∃ gp, Lw w0 w' E (upd B 0 (vals 122 30 (upd D 7 (.pointer (some ⟨g, 0, none⟩))))) n L pf (upd D 7 (.pointer (some ⟨g, 0, none⟩))) g gp) := hM
      clear hc hp hG hM
      unfold Oper.wp; generalize a.eval = ρ at *; go_simp; exact hK g w' (fun _ _ => rfl) hM'
    · intro l g a w' K hp hc hl hG hM hK
      have e338 : a.eval (.tmp 338) = .pointer (some ⟨E 0, 4, none⟩) := hG.of 338 8 (by kernel_rfl) (preAt hc 14 _ hp (by kernel_rfl))
      have hS9 := hM.2.1 (hc.not 13 14 hl (by kernel_rfl))
      have kb := hS9.valAt (k := 0) (by omega) b0 (i := 4) (by omega)
      rw [d4] at kb
      have hM' : ((upd l 9 true) 10 = false → w' = w.drew) ∧ ((upd l 9 true) 13 = false → St w0 w' 4 E B) ∧ ((upd l 9 true) 10 = true → (upd l 9 true) 13 = false → DomOk w.drew w' n g) ∧ ((upd l 9 true) 13 = true → ∃ gp, Lw w0 w' E (upd B 0 (vals 122 30 (upd D 7 (.pointer (some ⟨g, 0, none⟩))))) n L pf (upd D 7 (.pointer (some ⟨g, 0, none⟩))) g gp) := hM
      clear hS9
      clear hc hp hG hM
      unfold Oper.wp; generalize a.eval = ρ at *; go_simp; exact hK g w' (fun _ _ => rfl) hM'
    · intro l g a w' K hp hc hl hG hM hK
      have e331 : a.eval (.tmp 331) = .pointer (some ⟨fb, 0, none⟩) := hG.of 331 1 (by kernel_rfl) (preAt hc 14 _ hp (by kernel_rfl))
      have e335 : a.eval (.tmp 335) = .slice (some ⟨E 2, 0, none⟩) (n + 1) (n + 1) := hG.of 335 5 (by kernel_rfl) (preAt hc 14 _ hp (by kernel_rfl))
      have e339 : a.eval (.tmp 339) = .slice (some ⟨E 3, 0, none⟩) L L := hG.of 339 9 (by kernel_rfl) (preAt hc 14 _ hp (by kernel_rfl))
      have ef : ∀ x, a.eval (.func x) = .func (.func x) #[] #[] := fun _ => rfl
      obtain rfl := hM.1 hl
      have hS9 := hM.2.1 (hc.not 13 14 hl (by kernel_rfl))
      have h13 := hc.not 13 14 hl (by kernel_rfl)
      have FIN : Hid (∀ dp w'', DomOk w.drew w'' n dp → K (a.put (some 340) (.pointer (some ⟨dp, 0, none⟩))) w'') := fun dp w'' h => hK dp w'' (fun i hi => by
              match i, hi with
              | 0, _ => rfl
              | 1, _ => rfl
              | 2, _ => rfl
              | 3, _ => rfl
              | 4, _ => rfl
              | 5, _ => rfl
              | 6, _ => rfl
              | 7, _ => rfl
              | 8, _ => rfl
              | 9, _ => rfl
              | 10, hi => exact absurd hi (by rw [hl]; decide)
              | 11, _ => rfl
              | 12, _ => rfl
              | 13, _ => rfl
              | _ + 14, _ => rfl) ⟨fun h' => absurd h' (by rw [upd_same]; decide), fun _ => hS9.later h.1, fun _ _ => h, fun h' => absurd h' (by rw [upd_other _ _ (by omega), h13]; decide)⟩
      clear hK hc hp hG hM hS9 h13
      unfold Oper.wp; generalize hρ : a.eval = ρ at *; go_simp
      refine Calls.mono HC.out ?_
      rintro e w'' ⟨dp, rfl, hw⟩
      exact FIN.out dp w'' hw
    · intro l g a w' K hp hc hl hG hM hK
      have e330 : a.eval (.tmp 330) = .pointer (some ⟨E 0, 0, none⟩) := hG.of 330 0 (by kernel_rfl) (preAt hc 14 _ hp (by kernel_rfl))
      have hM' : ((upd l 11 true) 10 = false → w' = w.drew) ∧ ((upd l 11 true) 13 = false → St w0 w' 4 E B) ∧ ((upd l 11 true) 10 = true → (upd l 11 true) 13 = false → DomOk w.drew w' n g) ∧ ((upd l 11 true) 13 = true → ∃ gp, Lw w0 w' E (upd B 0 (vals 122 30 (upd D 7 (.pointer (some ⟨g, 0, none⟩))))) n L pf (upd D 7 (.pointer (some ⟨g, 0, none⟩))) g gp) := hM
      clear hc hp hG hM
      unfold Oper.wp; generalize a.eval = ρ at *; go_simp; exact hK g w' (fun _ _ => rfl) hM'
    · intro l g a w' K hp hc hl hG hM hK
      have e341 : a.eval (.tmp 341) = .pointer (some ⟨E 0, 0, none⟩) := hG.of 341 11 (by kernel_rfl) (preAt hc 14 _ hp (by kernel_rfl))
      have hM' : ((upd l 12 true) 10 = false → w' = w.drew) ∧ ((upd l 12 true) 13 = false → St w0 w' 4 E B) ∧ ((upd l 12 true) 10 = true → (upd l 12 true) 13 = false → DomOk w.drew w' n g) ∧ ((upd l 12 true) 13 = true → ∃ gp, Lw w0 w' E (upd B 0 (vals 122 30 (upd D 7 (.pointer (some ⟨g, 0, none⟩))))) n L pf (upd D 7 (.pointer (some ⟨g, 0, none⟩))) g gp) := hM
      clear hc hp hG hM
      unfold Oper.wp; generalize a.eval = ρ at *; go_simp; exact hK g w' (fun _ _ => rfl) hM'
    · intro l g a w' K hp hc hl hG hM hK
      have e342 : a.eval (.tmp 342) = .pointer (some ⟨E 0, 7, none⟩) := hG.of 342 12 (by kernel_rfl) (preAt hc 14 _ hp (by kernel_rfl))
      have e340 : a.eval (.tmp 340) = .pointer (some ⟨g, 0, none⟩) := hG.of 340 10 (by kernel_rfl) (preAt hc 14 _ hp (by kernel_rfl))
      have hS9 := hM.2.1 hl
      have h10 : l 10 = true := preAt hc 14 _ hp (by kernel_rfl)
      obtain ⟨hsn, gp, hdp, hgp, kp, hpre⟩ := hM.2.2.1 h10 hl
      have kb := hS9.valAt (k := 0) (by omega) b0 (i := 7) (by omega)
      have kf := hS9.frz 0 (by omega) 7
      have hS2 := hS9.setVal (k := 0) (by omega) b0 7 (.pointer (some ⟨g, 0, none⟩))
      have e0 : E 0 < w.drew.heap.size := hlt 0 (by omega)
      have e3 : E 3 < w.drew.heap.size := hlt 3 (by omega)
      have hW : Lw w0 (w'.setCell ⟨E 0, 7, none⟩ (.pointer (some ⟨g, 0, none⟩))) E (upd B 0 (vals 122 30 (upd D 7 (.pointer (some ⟨g, 0, none⟩))))) n L pf (upd D 7 (.pointer (some ⟨g, 0, none⟩))) g gp := ⟨hS2, upd_same _ _ _, by rw [upd_other _ _ (by omega)]; exact b1, by rw [upd_other _ _ (by omega)]; exact b2, by rw [upd_other _ _ (by omega)]; exact b3, by rw [upd_other _ _ (by omega)]; exact d3, by rw [upd_other _ _ (by omega)]; exact d4, upd_same _ _ _, by rw [World.cell?_setCell_other _ _ _ _ (fun e => by have := congrArg Addr.block e; simp at this; omega)]; exact kp, hpre.of_block (Go.Deep.blk_setCell_other _ _ _ _ (by show gp ≠ E 0; omega)), ⟨by omega, by omega⟩, hn1⟩
      have fin := hK g (w'.setCell ⟨E 0, 7, none⟩ (.pointer (some ⟨g, 0, none⟩))) (fun _ _ => rfl) ⟨fun h' => absurd h' (by rw [upd_other _ _ (by omega), h10]; decide), fun h' => absurd h' (by rw [upd_same]; decide), fun _ h' => absurd h' (by rw [upd_same]; decide), fun _ => ⟨gp, hW⟩⟩
      clear hK hc hp hG hM hS9 hS2 hW hpre kp
      unfold Oper.wp; generalize a.eval = ρ at *; go_simp; exact fin
  · intro l g x w' hl hv ho hM
    obtain ⟨gp, hW⟩ := hM.2.2.2 (hl 13 (show 13 < 14 by omega))
    exact HQ.out x w' _ _ g gp (fun s hs hw => ho s hs hw) hW

set_option maxHeartbeats 4000000 in
set_option maxRecDepth 100000 in
theorem l62 {F : (Nat → Value) → Act} (hF : Fr 371 F) {w0 w : World} {E : Nat → Nat} {B : Nat → Lb} {n L dp gp : Nat} {pf : Nat → Nat} {D f : Nat → Value} {R : Ending → World → Prop}
    (hW : Lw w0 w E B n L pf D dp gp) (hP : Pf n L pf) (hL : L ≤ 100000000) (hn : n ≤ 100000) (h7 : f 7 = .pointer (some ⟨E 1, 0, none⟩)) (h11 : f 11 = .int .i64 (n : Nat))
    (hR : ∀ w', w0.Since w0.heap.size w' → R (.returned (.pointer (some ⟨E 0, 0, none⟩))) w') :
    ((Ybaz.f19.body.bind (codeAt 62)).getD .skip).wp Ybaz.prog (bodyPost Ybaz.prog Ybaz.f19 R) (F f) w := by
  conv => arg 2; whnf
  have hget := hF.get
  have hmk := hF.up
  have HR : Hid (∀ w', w0.Since w0.heap.size w' → R (.returned (.pointer (some ⟨E 0, 0, none⟩))) w') := hR
  have HW : Hid (Lw w0 w E B n L pf D dp gp) := hW
  clear hR hW
  refine wp_seq_hid (fun K HK => ?_)
  refine wp_seq_hid (fun K2 HK2 => ?_)
  go_wp2
  refine HK2.out _ _ ?_
  clear HK2 K2
  refine wp_block ?_
  refine wp_loop_ghost_k (fun g a w => ∃ f, a = F f ∧ ∃ i, g + i = n ∧ Lw w0 w E B n L pf D dp gp ∧ f 7 = .pointer (some ⟨E 1, 0, none⟩) ∧ f 343 = .int .i64 (n : Nat) ∧ f 344 = .int .i64 (i : Nat)) n ⟨_, rfl, 0, rfl, HW.out, by simp [fup_at, h7], by simp [fup_at], by simp [fup_at]⟩ ?_
  clear HW h7 h11 f
  rintro g _ w2 ⟨f, rfl, i, hg, hW, h7, h343, h344⟩ J K1 hJ hK1
  have HJ : Hid _ := hJ
  have HK1 : Hid (∀ a' w', Handed J g a' w' → K1 a' w') := hK1
  have HW : Hid (Lw w0 w2 E B n L pf D dp gp) := hW
  clear hJ hK1 hW
  refine wp_seq_hid (fun Ka HKa => ?_)
  go_wp2
  refine HKa.out _ _ ?_
  clear HKa Ka
  refine wp_seq_hid (fun Kb HKb => ?_)
  refine hF.cond (by omega) rfl (fun h0 => ?_) (fun h0 => ?_)
  · have hi : i < n := by simpa using h0
    clear h0
    go_wp2
    refine HKb.out _ _ ?_
    clear HKb
    refine wp_seq_hid (fun K2 HK2 => ?_)
    refine wp_block ?_
    refine wp_seq_hid (fun K3 HK3 => ?_)
    go_wp2
    refine HK3.out _ _ ?_
    clear HK3
    refine l65 hF HW.out hP hL hn hi (by simp [fup_at, h7]) (by simp [fup_at]) ?_
    intro x w3 hx hW3
    have x7 : x 7 = .pointer (some ⟨E 1, 0, none⟩) := (hx 7 (by omega) (by kernel_rfl)).trans (by simp [fup_at, h7])
    have x343 : x 343 = .int .i64 (n : Nat) := (hx 343 (by omega) (by kernel_rfl)).trans (by simp [fup_at, h343])
    have x344 : x 344 = .int .i64 (i : Nat) := (hx 344 (by omega) (by kernel_rfl)).trans (by simp [fup_at, h344])
    have HW3 : Hid (Lw w0 w3 E B n L pf D dp gp) := hW3
    refine HK2.out _ _ ?_
    clear HK2 hx hW3 HW h7 h343 h344
    go_wp2
    exact HK1.out _ _ ⟨g - 1, by omega, HJ.out _ _ _ ⟨_, rfl, i + 1, by omega, HW3.out, by simp [fup_at, x7], by simp [fup_at, x343], by simp [fup_at]⟩⟩
  · clear h0
    go_wp2
    refine HK.out _ _ ?_
    clear HK HK1 HJ HKb
    have k1 := HW.out.st.box (k := 1) (by omega) HW.out.b1
    go_wp2
    exact hF.ret (t := 6) rfl (by omega) (by simp [fup_at]) (HR.out w2 HW.out.st.since)
end Go.Proofs.YbulkexmzaGreat
