/-
  newDominance (38): regions 45 and 49.
-/
import Derived.Test.YbulkexmzaGreatUf
namespace Go.Proofs.YbulkexmzaGreat
open Go.RowKit
set_option maxHeartbeats 4000000 in
set_option maxRecDepth 100000 in
theorem r45 {F : (Nat → Value) → Act} (hF : Fr 577 F) {w0 w : World} {K : Nat} {E : Nat → Nat} {B : Nat → Lb} {m : Nat} {f : Nat → Value} {Q : Exit → Act → World → Prop}
    (hS : St w0 w K E B) (hm : m ≤ 100001) (h23 : f 23 = .int .i64 (m : Nat))
    (hQ : ∀ x w' g3 g6, (∀ s, s < 577 → wrF (opsL (Ybaz.f38.body.bind (regAt 45))) 0 s = none → x s = f s) → St w0 w' (K + 1 + 1) (upd (upd E K g3) (K + 1) g6) (upd (upd B K (arr m (fun _ => -1))) (K + 1) (zrow 3 m (.int .i64 0))) → x 28 = .slice (some ⟨g3, 0, none⟩) m m → x 29 = .slice (some ⟨g6, 0, none⟩) m m → Q .normal (F x) w') :
    ((Ybaz.f38.body.bind (regAt 45)).getD .skip).wp Ybaz.prog Q (F f) w := by
  conv => arg 2; whnf
  have hlt : ∀ k, k < K → E k < w.drew.heap.size := fun k hk => (hS.row k hk).lt
  have hsz : w0.heap.size ≤ w.drew.heap.size := hS.since.size
  have HQ : Hid (∀ x w' g3 g6, (∀ s, s < 577 → wrF (opsL (Ybaz.f38.body.bind (regAt 45))) 0 s = none → x s = f s) → St w0 w' (K + 1 + 1) (upd (upd E K g3) (K + 1) g6) (upd (upd B K (arr m (fun _ => -1))) (K + 1) (zrow 3 m (.int .i64 0))) → x 28 = .slice (some ⟨g3, 0, none⟩) m m → x 29 = .slice (some ⟨g6, 0, none⟩) m m → Q .normal (F x) w') := hQ
  have H0 : Hid (St w0 w.drew K E B) := hS.drew
  clear hS hQ
  refine region_frm hF (γ := (Nat → Nat)) (fun i g => match i with
    | 0 => .slice (some ⟨g 0, 0, none⟩) 1 1
    | 1 => .int .i64 (m : Nat)
    | 2 => .slice (some ⟨g 2, 0, none⟩) m m
    | 3 => .int .i64 (m : Nat)
    | 4 => .slice (some ⟨g 4, 0, none⟩) m m
    | 5 => .slice (some ⟨g 2, 0, none⟩) m m
    | 6 => .slice (some ⟨g 4, 0, none⟩) m m
    | _ => undef) (fun l g w' => St w0 w' K E B ∧ Mk w.drew w' l [0, 2, 4] g (fun j => match j with
      | 0 => arr 1 (fun _ => -1)
      | 2 => arr m (fun _ => -1)
      | _ => zrow 3 m (.int .i64 0))) (fun _ => 0) (by kernel_rfl) (by kernel_rfl) ⟨H0.out, Mk.start _ _ _ _⟩ ?_ ?_
  · refine ⟨?_, ?_, ?_, ?_, ?_, ?_, ?_, trivial⟩
    · intro l g a w' K' hp hc hl hG hM hK
      have ec : ∀ v, a.eval (.const v) = v := fun _ => rfl
      obtain ⟨hS, hk⟩ := hM
      have fin := hK (upd g 0 w'.heap.size) (w'.alloc (.cells #[.int .i64 (-1)] 3)) (fun i hi => by
              match i, hi with
              | 0, hi => exact absurd hi (by rw [hl]; decide)
              | 1, _ => rfl
              | 2, hi => exact absurd hi (by rw [hc.not 2 7 hl (by kernel_rfl)]; decide)
              | 3, _ => rfl
              | 4, _ => rfl
              | 5, hi => exact absurd hi (by rw [hc.not 5 7 hl (by kernel_rfl)]; decide)
              | 6, _ => rfl
              | _ + 7, _ => rfl) ⟨hS.alloc _, hk.make 0 hl _ ⟨#[.int .i64 (-1)], Go.Deep.blk_alloc_new _ _, rfl, fun i v hv => by
        match i, hv with
        | 0, hv => simp at hv; exact hv.symm⟩⟩
      clear hK hc hp hG hS hk
      unfold Oper.wp; generalize a.eval = ρ at *; go_simp; exact fin
    · intro l g a w' K' hp hc hl hG hM hK
      have e23 : a.eval (.tmp 23) = .int .i64 (m : Nat) := (hG.oldF hF 23 (by kernel_rfl) (by omega)).trans h23
      have hM' : St w0 w' K E B ∧ Mk w.drew w' (upd l 1 true) [0, 2, 4] g (fun j => match j with
            | 0 => arr 1 (fun _ => -1)
            | 2 => arr m (fun _ => -1)
            | _ => zrow 3 m (.int .i64 0)) := ⟨hM.1, hM.2.done 1 (by decide)⟩
      clear hc hp hG hM
      unfold Oper.wp; generalize a.eval = ρ at *; go_simp; exact hK g w' (fun _ _ => rfl) hM'
    · intro l g a w' K' hp hc hl hG hM hK
      have e222 : a.eval (.tmp 222) = .slice (some ⟨g 0, 0, none⟩) 1 1 := hG.of 222 0 (by kernel_rfl) (preAt hc 7 _ hp (by kernel_rfl))
      have e223 : a.eval (.tmp 223) = .int .i64 (m : Nat) := hG.of 223 1 (by kernel_rfl) (preAt hc 7 _ hp (by kernel_rfl))
      have ef : ∀ x, a.eval (.func x) = .func (.func x) #[] #[] := fun _ => rfl
      obtain ⟨hS, hk⟩ := hM
      have h0 : l 0 = true := preAt hc 7 _ hp (by kernel_rfl)
      obtain ⟨u, ku, hu⟩ := (hk.row 0 (by decide) h0).2.cell (i := 0) (by show 0 < 1; omega)
      have hu' : u = .int .i64 (-1) := hu
      rw [hu'] at ku
      have FIN : Hid (∀ w'', w'.Since w'.heap.size w'' → RowOk w'' w'.heap.size (arr m (fun _ => -1)) → K' (a.put (some 224) (.slice (some ⟨w'.heap.size, 0, none⟩) m m)) w'') := fun w'' h1 h2 => hK (upd g 2 w'.heap.size) w'' (fun i hi => by
              match i, hi with
              | 0, _ => rfl
              | 1, _ => rfl
              | 2, hi => exact absurd hi (by rw [hl]; decide)
              | 3, _ => rfl
              | 4, _ => rfl
              | 5, hi => exact absurd hi (by rw [hc.not 5 7 hl (by kernel_rfl)]; decide)
              | 6, _ => rfl
              | _ + 7, _ => rfl) ⟨hS.later h1, hk.made h1 2 _ hl (Nat.le_refl _) h2⟩
      have HR := repeat20 (w := w') (b := g 0) (c := 1) (-1) m (by omega) ku
      clear hK hc hp hG hS hk
      unfold Oper.wp; generalize hρ : a.eval = ρ at *; go_simp
      refine Calls.mono HR ?_
      rintro e w'' ⟨rfl, h1, h2⟩
      exact FIN.out w'' h1 h2
    · intro l g a w' K' hp hc hl hG hM hK
      have e23 : a.eval (.tmp 23) = .int .i64 (m : Nat) := (hG.oldF hF 23 (by kernel_rfl) (by omega)).trans h23
      have hM' : St w0 w' K E B ∧ Mk w.drew w' (upd l 3 true) [0, 2, 4] g (fun j => match j with
            | 0 => arr 1 (fun _ => -1)
            | 2 => arr m (fun _ => -1)
            | _ => zrow 3 m (.int .i64 0)) := ⟨hM.1, hM.2.done 3 (by decide)⟩
      clear hc hp hG hM
      unfold Oper.wp; generalize a.eval = ρ at *; go_simp; exact hK g w' (fun _ _ => rfl) hM'
    · intro l g a w' K' hp hc hl hG hM hK
      have e225 : a.eval (.tmp 225) = .int .i64 (m : Nat) := hG.of 225 3 (by kernel_rfl) (preAt hc 7 _ hp (by kernel_rfl))
      refine op_make mty46 (.tmp 225) (.tmp 225) rfl m m e225 e225 (by omega) (by omega) ?_
      obtain ⟨hS, hk⟩ := hM
      exact hK (upd g 4 w'.heap.size) _ (fun i hi => by
              match i, hi with
              | 0, _ => rfl
              | 1, _ => rfl
              | 2, _ => rfl
              | 3, _ => rfl
              | 4, hi => exact absurd hi (by rw [hl]; decide)
              | 5, _ => rfl
              | 6, hi => exact absurd hi (by rw [hc.not 6 7 hl (by kernel_rfl)]; decide)
              | _ + 7, _ => rfl) ⟨hS.alloc _, hk.make 4 hl _ (rowOk_z _ _ _ _)⟩
    · intro l g a w' K' hp hc hl hG hM hK
      have e224 : a.eval (.tmp 224) = .slice (some ⟨g 2, 0, none⟩) m m := hG.of 224 2 (by kernel_rfl) (preAt hc 7 _ hp (by kernel_rfl))
      have hM' : St w0 w' K E B ∧ Mk w.drew w' (upd l 5 true) [0, 2, 4] g (fun j => match j with
            | 0 => arr 1 (fun _ => -1)
            | 2 => arr m (fun _ => -1)
            | _ => zrow 3 m (.int .i64 0)) := ⟨hM.1, hM.2.done 5 (by decide)⟩
      clear hc hp hG hM
      unfold Oper.wp; generalize a.eval = ρ at *; go_simp; exact hK g w' (fun _ _ => rfl) hM'
    · intro l g a w' K' hp hc hl hG hM hK
      have e226 : a.eval (.tmp 226) = .slice (some ⟨g 4, 0, none⟩) m m := hG.of 226 4 (by kernel_rfl) (preAt hc 7 _ hp (by kernel_rfl))
      have hM' : St w0 w' K E B ∧ Mk w.drew w' (upd l 6 true) [0, 2, 4] g (fun j => match j with
            | 0 => arr 1 (fun _ => -1)
            | 2 => arr m (fun _ => -1)
            | _ => zrow 3 m (.int .i64 0)) := ⟨hM.1, hM.2.done 6 (by decide)⟩
      clear hc hp hG hM
      unfold Oper.wp; generalize a.eval = ρ at *; go_simp; exact hK g w' (fun _ _ => rfl) hM'
  · intro l g x w' hl hv ho hM
    obtain ⟨hS, hk⟩ := hM
    have all : ∀ i, i < 7 → l i = true := hl
    obtain ⟨p3, r3⟩ := hk.row 2 (by decide) (all 2 (by omega))
    obtain ⟨p6, r6⟩ := hk.row 4 (by decide) (all 4 (by omega))
    have n1 : g 2 ≠ g 4 := fun e => absurd (hk.ne 2 (by decide) 4 (by decide) (all 2 (by omega)) (all 4 (by omega)) e) (by omega)
    have s1 := hS.add (g 2) _ r3 (by omega) (fun k hk => by have := hlt k hk; omega)
    have s2 := s1.add (g 4) _ r6 (by omega) (fun k hk => by
      by_cases e : k = K
      · subst e; rw [upd_same]; exact n1
      · rw [upd_other _ _ e]; have := hlt k (by omega); omega)
    exact HQ.out x w' (g 2) (g 4) (fun s hs hw => ho s hs hw) s2 (hv 28 5 (by omega) (by kernel_rfl)) (hv 29 6 (by omega) (by kernel_rfl))
set_option maxHeartbeats 4000000 in
set_option maxRecDepth 100000 in
theorem r49 {F : (Nat → Value) → Act} (hF : Fr 577 F) {w0 w : World} {K : Nat} {E : Nat → Nat} {B : Nat → Lb} {m v b1 b2 s1 s2 : Nat} {f : Nat → Value} {Q : Exit → Act → World → Prop}
    (hS : St w0 w K E B) (hkb1 : b1 < K) (hkb2 : b2 < K) (hks1 : s1 < K) (hks2 : s2 < K) (hb1 : B b1 = bx 46 (.slice (some ⟨E s1, 0, none⟩) m m)) (hb2 : B b2 = bx 46 (.slice (some ⟨E s2, 0, none⟩) m m)) (hs1 : B s1 = ints m (fun _ => 0) (fun _ => (m : Int))) (hs2 : B s2 = ints m (fun _ => 0) (fun _ => (m : Int))) (hv : v < m) (h24 : f 24 = .pointer (some ⟨E b1, 0, none⟩)) (h25 : f 25 = .pointer (some ⟨E b2, 0, none⟩)) (h30 : f 30 = .int .i64 (v : Nat))
    (hQ : ∀ x w', (∀ s, s < 577 → wrF (opsL (Ybaz.f38.body.bind (regAt 49))) 0 s = none → x s = f s) → St w0 w' K E B → Q .normal (F x) w') :
    ((Ybaz.f38.body.bind (regAt 49)).getD .skip).wp Ybaz.prog Q (F f) w := by
  conv => arg 2; whnf
  have hvz : (v : Int) < (m : Int) := by omega
  have HQ : Hid (∀ x w', (∀ s, s < 577 → wrF (opsL (Ybaz.f38.body.bind (regAt 49))) 0 s = none → x s = f s) → St w0 w' K E B → Q .normal (F x) w') := hQ
  have H0 : Hid (St w0 w.drew K E B) := hS.drew
  clear hS hQ
  refine region_frm hF (γ := Unit) (fun i g => match i with
    | 0 => .slice (some ⟨E s1, 0, none⟩) m m
    | 1 => .int .i64 (v : Nat)
    | 2 => .slice (some ⟨E s2, 0, none⟩) m m
    | 3 => .int .i64 (v : Nat)
    | 4 => .int .i64 (v : Nat)
    | 5 => .int .i64 (v : Nat)
    | 6 => .pointer (some ⟨E s1, v, none⟩)
    | 7 => undef
    | 8 => .pointer (some ⟨E s2, v, none⟩)
    | 9 => undef
    | _ => undef) (fun _ _ w' => St w0 w' K E B) () (by kernel_rfl) (by kernel_rfl) H0.out ?_ ?_
  · refine ⟨?_, ?_, ?_, ?_, ?_, ?_, ?_, ?_, ?_, ?_, trivial⟩
    · intro l g a w' K' hp hc hl hG hM hK
      have e24 : a.eval (.tmp 24) = .pointer (some ⟨E b1, 0, none⟩) := (hG.oldF hF 24 (by kernel_rfl) (by omega)).trans h24
      have kb := hM.box (k := b1) (by omega) hb1
      clear hc hp hG
      unfold Oper.wp; generalize a.eval = ρ at *; go_simp; exact hK g w' (fun _ _ => rfl) hM
    · intro l g a w' K' hp hc hl hG hM hK
      have e30 : a.eval (.tmp 30) = .int .i64 (v : Nat) := (hG.oldF hF 30 (by kernel_rfl) (by omega)).trans h30
      clear hc hp hG
      unfold Oper.wp; generalize a.eval = ρ at *; go_simp; exact hK g w' (fun _ _ => rfl) hM
    · intro l g a w' K' hp hc hl hG hM hK
      have e25 : a.eval (.tmp 25) = .pointer (some ⟨E b2, 0, none⟩) := (hG.oldF hF 25 (by kernel_rfl) (by omega)).trans h25
      have kb := hM.box (k := b2) (by omega) hb2
      clear hc hp hG
      unfold Oper.wp; generalize a.eval = ρ at *; go_simp; exact hK g w' (fun _ _ => rfl) hM
    · intro l g a w' K' hp hc hl hG hM hK
      have e30 : a.eval (.tmp 30) = .int .i64 (v : Nat) := (hG.oldF hF 30 (by kernel_rfl) (by omega)).trans h30
      clear hc hp hG
      unfold Oper.wp; generalize a.eval = ρ at *; go_simp; exact hK g w' (fun _ _ => rfl) hM
    · intro l g a w' K' hp hc hl hG hM hK
      have e30 : a.eval (.tmp 30) = .int .i64 (v : Nat) := (hG.oldF hF 30 (by kernel_rfl) (by omega)).trans h30
      clear hc hp hG
      unfold Oper.wp; generalize a.eval = ρ at *; go_simp; exact hK g w' (fun _ _ => rfl) hM
    · intro l g a w' K' hp hc hl hG hM hK
      have e30 : a.eval (.tmp 30) = .int .i64 (v : Nat) := (hG.oldF hF 30 (by kernel_rfl) (by omega)).trans h30
      clear hc hp hG
      unfold Oper.wp; generalize a.eval = ρ at *; go_simp; exact hK g w' (fun _ _ => rfl) hM
    · intro l g a w' K' hp hc hl hG hM hK
      have e231 : a.eval (.tmp 231) = .slice (some ⟨E s1, 0, none⟩) m m := hG.of 231 0 (by kernel_rfl) (preAt hc 10 _ hp (by kernel_rfl))
      have e232 : a.eval (.tmp 232) = .int .i64 (v : Nat) := hG.of 232 1 (by kernel_rfl) (preAt hc 10 _ hp (by kernel_rfl))
      clear hc hp hG
      unfold Oper.wp; generalize a.eval = ρ at *; go_simp; exact hK g w' (fun _ _ => rfl) hM
    · intro l g a w' K' hp hc hl hG hM hK
      have e237 : a.eval (.tmp 237) = .pointer (some ⟨E s1, v, none⟩) := hG.of 237 6 (by kernel_rfl) (preAt hc 10 _ hp (by kernel_rfl))
      have e235 : a.eval (.tmp 235) = .int .i64 (v : Nat) := hG.of 235 4 (by kernel_rfl) (preAt hc 10 _ hp (by kernel_rfl))
      obtain ⟨u, ku, _⟩ := hM.read s1 (by omega) (i := v) (by rw [hs1]; exact hv)
      have kf := hM.frz s1 (by omega) v
      have fin := hK g (w'.setCell ⟨E s1, v, none⟩ (.int .i64 (v : Nat))) (fun _ _ => rfl) (hM.put s1 (by omega) (by rw [hs1]; exact ⟨v, rfl, by show (0 : Int) ≤ _; omega, by show (v : Int) < m; omega⟩))
      clear hK hc hp hG hM
      unfold Oper.wp; generalize a.eval = ρ at *; go_simp; exact fin
    · intro l g a w' K' hp hc hl hG hM hK
      have e233 : a.eval (.tmp 233) = .slice (some ⟨E s2, 0, none⟩) m m := hG.of 233 2 (by kernel_rfl) (preAt hc 10 _ hp (by kernel_rfl))
      have e234 : a.eval (.tmp 234) = .int .i64 (v : Nat) := hG.of 234 3 (by kernel_rfl) (preAt hc 10 _ hp (by kernel_rfl))
      clear hc hp hG
      unfold Oper.wp; generalize a.eval = ρ at *; go_simp; exact hK g w' (fun _ _ => rfl) hM
    · intro l g a w' K' hp hc hl hG hM hK
      have e238 : a.eval (.tmp 238) = .pointer (some ⟨E s2, v, none⟩) := hG.of 238 8 (by kernel_rfl) (preAt hc 10 _ hp (by kernel_rfl))
      have e236 : a.eval (.tmp 236) = .int .i64 (v : Nat) := hG.of 236 5 (by kernel_rfl) (preAt hc 10 _ hp (by kernel_rfl))
      obtain ⟨u, ku, _⟩ := hM.read s2 (by omega) (i := v) (by rw [hs2]; exact hv)
      have kf := hM.frz s2 (by omega) v
      have fin := hK g (w'.setCell ⟨E s2, v, none⟩ (.int .i64 (v : Nat))) (fun _ _ => rfl) (hM.put s2 (by omega) (by rw [hs2]; exact ⟨v, rfl, by show (0 : Int) ≤ _; omega, by show (v : Int) < m; omega⟩))
      clear hK hc hp hG hM
      unfold Oper.wp; generalize a.eval = ρ at *; go_simp; exact fin
  · intro l g x w' hl _ ho hM
    exact HQ.out x w' (fun s hs hw => ho s hs hw) hM
end Go.Proofs.YbulkexmzaGreat
