/-
  newDominance (38): region 86.
-/
import Derived.Test.YbulkexmzaGreatMk
import Derived.Test.YbulkexmzaGreatTs
namespace Go.Proofs.YbulkexmzaGreat
open Go.RowKit
/-- A callee that writes new blocks only. -/
theorem St.later {w0 w w' : World} {K : Nat} {E : Nat → Nat} {B : Nat → Lb} (h : St w0 w K E B) (hs : w.Since w.heap.size w') : St w0 w' K E B :=
  ⟨h.since.trans ⟨hs.os, hs.tape, hs.output, hs.size, fun i hi => hs.block i (Nat.lt_of_lt_of_le hi h.since.size)⟩, fun k hk => (h.row k hk).of_block (hs.block _ (h.row k hk).lt), h.base, h.inj⟩
set_option maxHeartbeats 4000000 in
set_option maxRecDepth 100000 in
theorem r86 {F : (Nat → Value) → Act} (hF : Fr 577 F) {w0 w : World} {K : Nat} {E : Nat → Nat} {B : Nat → Lb} {n : Nat} {f : Nat → Value} {Q : Exit → Act → World → Prop}
    (hS : St w0 w K E B) (hn : n ≤ 100000) (h7 : f 7 = .int .i64 (n : Nat))
    (hQ : ∀ x w' g3 g6, (∀ s, s < 577 → wrF (opsL (Ybaz.f38.body.bind (regAt 86))) 0 s = none → x s = f s) → St w0 w' (K + 1 + 1) (upd (upd E K g3) (K + 1) g6) (upd (upd B K (arr (n + 1) (fun _ => -1))) (K + 1) (zrow 3 (n + 1) (.int .i64 0))) → x 42 = .slice (some ⟨g3, 0, none⟩) (n + 1) (n + 1) → x 43 = .slice (some ⟨g6, 0, none⟩) (n + 1) (n + 1) → Q .normal (F x) w') :
    ((Ybaz.f38.body.bind (regAt 86)).getD .skip).wp Ybaz.prog Q (F f) w := by
  conv => arg 2; whnf
  have hw : IntKind.i64.wrap ((n : Int) + 1) = (n : Int) + 1 := by rw [IntKind.wrap_i64]; omega
  have hlt : ∀ k, k < K → E k < w.drew.heap.size := fun k hk => (hS.row k hk).lt
  have hsz : w0.heap.size ≤ w.drew.heap.size := hS.since.size
  have HQ : Hid (∀ x w' g3 g6, (∀ s, s < 577 → wrF (opsL (Ybaz.f38.body.bind (regAt 86))) 0 s = none → x s = f s) → St w0 w' (K + 1 + 1) (upd (upd E K g3) (K + 1) g6) (upd (upd B K (arr (n + 1) (fun _ => -1))) (K + 1) (zrow 3 (n + 1) (.int .i64 0))) → x 42 = .slice (some ⟨g3, 0, none⟩) (n + 1) (n + 1) → x 43 = .slice (some ⟨g6, 0, none⟩) (n + 1) (n + 1) → Q .normal (F x) w') := hQ
  have H0 : Hid (St w0 w.drew K E B) := hS.drew
  clear hS hQ
  refine region_frm hF (γ := (Nat → Nat)) (fun i g => match i with
    | 0 => .slice (some ⟨g 0, 0, none⟩) 1 1
    | 1 => .int .i64 (n : Nat)
    | 2 => .int .i64 ((n : Int) + 1)
    | 3 => .slice (some ⟨g 3, 0, none⟩) (n + 1) (n + 1)
    | 4 => .int .i64 (n : Nat)
    | 5 => .int .i64 ((n : Int) + 1)
    | 6 => .slice (some ⟨g 6, 0, none⟩) (n + 1) (n + 1)
    | 7 => .slice (some ⟨g 3, 0, none⟩) (n + 1) (n + 1)
    | 8 => .slice (some ⟨g 6, 0, none⟩) (n + 1) (n + 1)
    | _ => undef) (fun l g w' => St w0 w' K E B ∧ Mk w.drew w' l [0, 3, 6] g (fun j => match j with
      | 0 => arr 1 (fun _ => -1)
      | 3 => arr (n + 1) (fun _ => -1)
      | _ => zrow 3 (n + 1) (.int .i64 0))) (fun _ => 0) (by kernel_rfl) (by kernel_rfl) ⟨H0.out, Mk.start _ _ _ _⟩ ?_ ?_
  · refine ⟨?_, ?_, ?_, ?_, ?_, ?_, ?_, ?_, ?_, trivial⟩
    · intro l g a w' K' hp hc hl hG hM hK
      have ec : ∀ v, a.eval (.const v) = v := fun _ => rfl
      obtain ⟨hS, hk⟩ := hM
      have fin := hK (upd g 0 w'.heap.size) (w'.alloc (.cells #[.int .i64 (-1)] 3)) (fun i hi => by
              match i, hi with
              | 0, hi => exact absurd hi (by rw [hl]; decide)
              | 1, _ => rfl
              | 2, _ => rfl
              | 3, hi => exact absurd hi (by rw [hc.not 3 9 hl (by kernel_rfl)]; decide)
              | 4, _ => rfl
              | 5, _ => rfl
              | 6, _ => rfl
              | 7, hi => exact absurd hi (by rw [hc.not 7 9 hl (by kernel_rfl)]; decide)
              | 8, _ => rfl
              | _ + 9, _ => rfl) ⟨hS.alloc _, hk.make 0 hl _ ⟨#[.int .i64 (-1)], Go.Deep.blk_alloc_new _ _, rfl, fun i v hv => by
        match i, hv with
        | 0, hv => simp at hv; exact hv.symm⟩⟩
      clear hK hc hp hG hS hk
      unfold Oper.wp; generalize a.eval = ρ at *; go_simp; exact fin
    · intro l g a w' K' hp hc hl hG hM hK
      have e7 : a.eval (.tmp 7) = .int .i64 (n : Nat) := (hG.oldF hF 7 (by kernel_rfl) (by omega)).trans h7
      have hM' : St w0 w' K E B ∧ Mk w.drew w' (upd l 1 true) [0, 3, 6] g (fun j => match j with
            | 0 => arr 1 (fun _ => -1)
            | 3 => arr (n + 1) (fun _ => -1)
            | _ => zrow 3 (n + 1) (.int .i64 0)) := ⟨hM.1, hM.2.done 1 (by decide)⟩
      clear hc hp hG hM
      unfold Oper.wp; generalize a.eval = ρ at *; go_simp; exact hK g w' (fun _ _ => rfl) hM'
    · intro l g a w' K' hp hc hl hG hM hK
      have e419 : a.eval (.tmp 419) = .int .i64 (n : Nat) := hG.of 419 1 (by kernel_rfl) (preAt hc 9 _ hp (by kernel_rfl))
      have ec : ∀ v, a.eval (.const v) = v := fun _ => rfl
      have hM' : St w0 w' K E B ∧ Mk w.drew w' (upd l 2 true) [0, 3, 6] g (fun j => match j with
            | 0 => arr 1 (fun _ => -1)
            | 3 => arr (n + 1) (fun _ => -1)
            | _ => zrow 3 (n + 1) (.int .i64 0)) := ⟨hM.1, hM.2.done 2 (by decide)⟩
      clear hc hp hG hM
      unfold Oper.wp; generalize a.eval = ρ at *; go_simp; exact hK g w' (fun _ _ => rfl) hM'
    · intro l g a w' K' hp hc hl hG hM hK
      have e418 : a.eval (.tmp 418) = .slice (some ⟨g 0, 0, none⟩) 1 1 := hG.of 418 0 (by kernel_rfl) (preAt hc 9 _ hp (by kernel_rfl))
      have e420 : a.eval (.tmp 420) = .int .i64 ((n : Int) + 1) := hG.of 420 2 (by kernel_rfl) (preAt hc 9 _ hp (by kernel_rfl))
      have ef : ∀ x, a.eval (.func x) = .func (.func x) #[] #[] := fun _ => rfl
      obtain ⟨hS, hk⟩ := hM
      have h0 : l 0 = true := preAt hc 9 _ hp (by kernel_rfl)
      obtain ⟨u, ku, hu⟩ := (hk.row 0 (by decide) h0).2.cell (i := 0) (by show 0 < 1; omega)
      have hu' : u = .int .i64 (-1) := hu
      rw [hu'] at ku
      have fin : ∀ w'', w'.Since w'.heap.size w'' → RowOk w'' w'.heap.size (arr (n + 1) (fun _ => -1)) → K' (a.put (some 421) (.slice (some ⟨w'.heap.size, 0, none⟩) (n + 1) (n + 1))) w'' := fun w'' h1 h2 => hK (upd g 3 w'.heap.size) w'' (fun i hi => by
              match i, hi with
              | 0, _ => rfl
              | 1, _ => rfl
              | 2, _ => rfl
              | 3, hi => exact absurd hi (by rw [hl]; decide)
              | 4, _ => rfl
              | 5, _ => rfl
              | 6, _ => rfl
              | 7, hi => exact absurd hi (by rw [hc.not 7 9 hl (by kernel_rfl)]; decide)
              | 8, _ => rfl
              | _ + 9, _ => rfl) ⟨hS.later h1, hk.made h1 3 _ hl (Nat.le_refl _) h2⟩
      have FIN : Hid (∀ w'', w'.Since w'.heap.size w'' → RowOk w'' w'.heap.size (arr (n + 1) (fun _ => -1)) → K' (a.put (some 421) (.slice (some ⟨w'.heap.size, 0, none⟩) (n + 1) (n + 1))) w'') := fin
      have HR := repeat20 (w := w') (b := g 0) (c := 1) (-1) (n + 1) (by omega) ku
      clear fin hK hc hp hG hS hk
      unfold Oper.wp; generalize hρ : a.eval = ρ at *; go_simp
      refine Calls.mono HR ?_
      rintro e w'' ⟨rfl, h1, h2⟩
      exact FIN.out w'' h1 h2
    · intro l g a w' K' hp hc hl hG hM hK
      have e7 : a.eval (.tmp 7) = .int .i64 (n : Nat) := (hG.oldF hF 7 (by kernel_rfl) (by omega)).trans h7
      have hM' : St w0 w' K E B ∧ Mk w.drew w' (upd l 4 true) [0, 3, 6] g (fun j => match j with
            | 0 => arr 1 (fun _ => -1)
            | 3 => arr (n + 1) (fun _ => -1)
            | _ => zrow 3 (n + 1) (.int .i64 0)) := ⟨hM.1, hM.2.done 4 (by decide)⟩
      clear hc hp hG hM
      unfold Oper.wp; generalize a.eval = ρ at *; go_simp; exact hK g w' (fun _ _ => rfl) hM'
    · intro l g a w' K' hp hc hl hG hM hK
      have e422 : a.eval (.tmp 422) = .int .i64 (n : Nat) := hG.of 422 4 (by kernel_rfl) (preAt hc 9 _ hp (by kernel_rfl))
      have ec : ∀ v, a.eval (.const v) = v := fun _ => rfl
      have hM' : St w0 w' K E B ∧ Mk w.drew w' (upd l 5 true) [0, 3, 6] g (fun j => match j with
            | 0 => arr 1 (fun _ => -1)
            | 3 => arr (n + 1) (fun _ => -1)
            | _ => zrow 3 (n + 1) (.int .i64 0)) := ⟨hM.1, hM.2.done 5 (by decide)⟩
      clear hc hp hG hM
      unfold Oper.wp; generalize a.eval = ρ at *; go_simp; exact hK g w' (fun _ _ => rfl) hM'
    · intro l g a w' K' hp hc hl hG hM hK
      have e423 : a.eval (.tmp 423) = .int .i64 ((n : Int) + 1) := hG.of 423 5 (by kernel_rfl) (preAt hc 9 _ hp (by kernel_rfl))
      refine op_make mty46 (.tmp 423) (.tmp 423) rfl (n + 1) (n + 1) e423 e423 (by omega) (by omega) ?_
      obtain ⟨hS, hk⟩ := hM
      exact hK (upd g 6 w'.heap.size) _ (fun i hi => by
              match i, hi with
              | 0, _ => rfl
              | 1, _ => rfl
              | 2, _ => rfl
              | 3, _ => rfl
              | 4, _ => rfl
              | 5, _ => rfl
              | 6, hi => exact absurd hi (by rw [hl]; decide)
              | 7, _ => rfl
              | 8, hi => exact absurd hi (by rw [hc.not 8 9 hl (by kernel_rfl)]; decide)
              | _ + 9, _ => rfl) ⟨hS.alloc _, hk.make 6 hl _ (rowOk_z _ _ _ _)⟩
    · intro l g a w' K' hp hc hl hG hM hK
      have e421 : a.eval (.tmp 421) = .slice (some ⟨g 3, 0, none⟩) (n + 1) (n + 1) := hG.of 421 3 (by kernel_rfl) (preAt hc 9 _ hp (by kernel_rfl))
      have hM' : St w0 w' K E B ∧ Mk w.drew w' (upd l 7 true) [0, 3, 6] g (fun j => match j with
            | 0 => arr 1 (fun _ => -1)
            | 3 => arr (n + 1) (fun _ => -1)
            | _ => zrow 3 (n + 1) (.int .i64 0)) := ⟨hM.1, hM.2.done 7 (by decide)⟩
      clear hc hp hG hM
      unfold Oper.wp; generalize a.eval = ρ at *; go_simp; exact hK g w' (fun _ _ => rfl) hM'
    · intro l g a w' K' hp hc hl hG hM hK
      have e424 : a.eval (.tmp 424) = .slice (some ⟨g 6, 0, none⟩) (n + 1) (n + 1) := hG.of 424 6 (by kernel_rfl) (preAt hc 9 _ hp (by kernel_rfl))
      have hM' : St w0 w' K E B ∧ Mk w.drew w' (upd l 8 true) [0, 3, 6] g (fun j => match j with
            | 0 => arr 1 (fun _ => -1)
            | 3 => arr (n + 1) (fun _ => -1)
            | _ => zrow 3 (n + 1) (.int .i64 0)) := ⟨hM.1, hM.2.done 8 (by decide)⟩
      clear hc hp hG hM
      unfold Oper.wp; generalize a.eval = ρ at *; go_simp; exact hK g w' (fun _ _ => rfl) hM'
  · intro l g x w' hl hv ho hM
    obtain ⟨hS, hk⟩ := hM
    have all : ∀ i, i < 9 → l i = true := hl
    obtain ⟨p3, r3⟩ := hk.row 3 (by decide) (all 3 (by omega))
    obtain ⟨p6, r6⟩ := hk.row 6 (by decide) (all 6 (by omega))
    have n1 : g 3 ≠ g 6 := fun e => absurd (hk.ne 3 (by decide) 6 (by decide) (all 3 (by omega)) (all 6 (by omega)) e) (by omega)
    have s1 := hS.add (g 3) _ r3 (by omega) (fun k hk => by have := hlt k hk; omega)
    have s2 := s1.add (g 6) _ r6 (by omega) (fun k hk => by
      by_cases e : k = K
      · subst e; rw [upd_same]; exact n1
      · rw [upd_other _ _ e]; have := hlt k (by omega); omega)
    exact HQ.out x w' (g 3) (g 6) (fun s hs hw => ho s hs hw) s2 (hv 42 7 (by omega) (by kernel_rfl)) (hv 43 8 (by omega) (by kernel_rfl))
end Go.Proofs.YbulkexmzaGreat
