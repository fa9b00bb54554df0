/-
  sink.join (8): the regions that join two blocks.
-/
import Derived.Test.YbulkexmzaGreatPb
namespace Go.Proofs.YbulkexmzaGreat
open Go.RowKit
attribute [local go_sem] fup_at
theorem lup_lup {β : Type} (f : Lab → β) (k : Lab) (x y : β) : lup (lup f k x) k y = lup f k y := by
  funext j
  by_cases e : j = k
  · subst e; rw [lup_same, lup_same]
  · rw [lup_other _ _ e, lup_other _ _ e, lup_other _ _ e]
theorem Sg.reval {w0 w : World} {E : Lab → Nat} {B : Lab → Option Lb} {k : Lab} {t : TypeId} {n : Nat} {D D' : Nat → Value} (h : Sg w0 w E (lup B k (some (vals t n D)))) (hD : ∀ s, D s = D' s) : Sg w0 w E (lup B k (some (vals t n D'))) := by
  have : D = D' := funext hD
  rw [← this]; exact h
set_option maxHeartbeats 4000000 in
set_option maxRecDepth 100000 in
theorem j9 {F : (Nat → Value) → Act} (hF : Fr 136 F) {w0 w : World} {E : Lab → Nat} {B : Lab → Option Lb} {kb kc ki : Lab} {D Dc : Nat → Value} {va xa : Option Addr} {len vc m c cap : Nat} {q q' : Nat → Value → Prop} {ns : List Value} {f : Nat → Value} {Q : Exit → Act → World → Prop}
    (hS : Sg w0 w E B) (hb : B kb = some (vals 45 6 D)) (hbc : B kc = some (vals 45 6 Dc)) (hne : kb ≠ ki) (hD : D 1 = .slice va len vc) (hDc : Dc 1 = .slice xa m c) (hSl : Slg E B ki 50 len cap q (.slice va len vc)) (h5 : f 5 = .pointer (some ⟨E kb, 0, none⟩)) (h6 : f 6 = .pointer (some ⟨E kc, 0, none⟩))
    (hnl : ns.length = m) (hnew : 0 < m → ∃ ad, xa = some ad ∧ ∀ j u, ns[j]? = some u → w.cell? (ad.add j) = some u) (h1 : ∀ u ∈ ns, u.oneCell' = true) (hlen : len + m ≤ 100000000000) (hq : ∀ i u, i < len → q i u → q' i u) (hz : ∀ j u, ns[j]? = some u → q' (len + j) u)
    (hQ : ∀ x v' w1, (∀ s, s < 136 → wrF (opsL (Ybaz.f8.body.bind (regAt 9))) 0 s = none → x s = f s) → Apg w0 E B ki 50 (len + m) q' v' w1 → Q .normal (F x) (w1.setCell ⟨E kb, 1, none⟩ v')) :
    ((Ybaz.f8.body.bind (regAt 9)).getD .skip).wp Ybaz.prog Q (F f) w := by
  conv => arg 2; whnf
  have HQ : Hid (∀ x v' w1, (∀ s, s < 136 → wrF (opsL (Ybaz.f8.body.bind (regAt 9))) 0 s = none → x s = f s) → Apg w0 E B ki 50 (len + m) q' v' w1 → Q .normal (F x) (w1.setCell ⟨E kb, 1, none⟩ v')) := hQ
  have HS : Hid (Sg w0 w.drew E B) := hS.drew
  have hnew : 0 < m → ∃ ad, xa = some ad ∧ ∀ j u, ns[j]? = some u → w.drew.cell? (ad.add j) = some u := hnew
  have kv1 := hS.drew.val hb (i := 1) (by omega)
  have kc1 := hS.drew.val hbc (i := 1) (by omega)
  rw [hD] at kv1
  rw [hDc] at kc1
  have HSl : Hid (Slg E B ki 50 len cap q (.slice va len vc)) := hSl
  clear hQ hS hSl
  obtain ⟨wd, hwd⟩ : ∃ wd, wd = w.drew := ⟨_, rfl⟩
  rw [← hwd] at HS hnew kv1 kc1
  refine region_frm hF (γ := Value) (fun op9 g => match op9 with
    | 0 => .pointer (some ⟨E kb, 0, none⟩)
    | 1 => .pointer (some ⟨E kb, 0, none⟩)
    | 2 => .pointer (some ⟨E kb, 0, none⟩)
    | 3 => .pointer (some ⟨E kb, 1, none⟩)
    | 4 => .slice va len vc
    | 5 => .pointer (some ⟨E kc, 0, none⟩)
    | 6 => .pointer (some ⟨E kc, 0, none⟩)
    | 7 => .pointer (some ⟨E kc, 1, none⟩)
    | 8 => .slice xa m c
    | 9 => g
    | 10 => .pointer (some ⟨E kb, 0, none⟩)
    | 11 => .pointer (some ⟨E kb, 1, none⟩)
    | 12 => undef
    | _ => undef) (fun l g w' => (l 9 = false → w' = wd) ∧ (l 9 = true → l 12 = false → Apg w0 E B ki 50 (len + m) q' g w') ∧ (l 12 = true → ∃ w1, Apg w0 E B ki 50 (len + m) q' g w1 ∧ w' = w1.setCell ⟨E kb, 1, none⟩ g)) undef (by kernel_rfl) (by kernel_rfl) ⟨fun _ => hwd.symm, fun h => (by cases h), fun h => (by cases h)⟩ ?_ ?_
  · refine ⟨?_, ?_, ?_, ?_, ?_, ?_, ?_, ?_, ?_, ?_, ?_, ?_, ?_, trivial⟩
    · intro l g a w' K hp hc hl hG hM hK
      have e5 : a.eval (.tmp 5) = .pointer (some ⟨E kb, 0, none⟩) := (hG.oldF hF 5 (by kernel_rfl) (by omega)).trans h5
      clear hc hp hG
      unfold Oper.wp; generalize a.eval = ρ at *; go_simp; exact hK g w' (fun _ _ => rfl) hM
    · intro l g a w' K hp hc hl hG hM hK
      have e5 : a.eval (.tmp 5) = .pointer (some ⟨E kb, 0, none⟩) := (hG.oldF hF 5 (by kernel_rfl) (by omega)).trans h5
      clear hc hp hG
      unfold Oper.wp; generalize a.eval = ρ at *; go_simp; exact hK g w' (fun _ _ => rfl) hM
    · intro l g a w' K hp hc hl hG hM hK
      have e77 : a.eval (.tmp 77) = .pointer (some ⟨E kb, 0, none⟩) := hG.of 77 1 (by kernel_rfl) (preAt hc 13 _ hp (by kernel_rfl))
      clear hc hp hG
      unfold Oper.wp; generalize a.eval = ρ at *; go_simp; exact hK g w' (fun _ _ => rfl) hM
    · intro l g a w' K hp hc hl hG hM hK
      have e78 : a.eval (.tmp 78) = .pointer (some ⟨E kb, 0, none⟩) := hG.of 78 2 (by kernel_rfl) (preAt hc 13 _ hp (by kernel_rfl))
      clear hc hp hG
      unfold Oper.wp; generalize a.eval = ρ at *; go_simp; exact hK g w' (fun _ _ => rfl) hM
    · intro l g a w' K hp hc hl hG hM hK
      have e79 : a.eval (.tmp 79) = .pointer (some ⟨E kb, 1, none⟩) := hG.of 79 3 (by kernel_rfl) (preAt hc 13 _ hp (by kernel_rfl))
      have kk := hM.1 (hc.not 9 13 hl (by kernel_rfl))
      subst kk
      clear hwd
      clear hc hp hG
      unfold Oper.wp; generalize a.eval = ρ at *; go_simp; exact hK g w' (fun _ _ => rfl) hM
    · intro l g a w' K hp hc hl hG hM hK
      have e6 : a.eval (.tmp 6) = .pointer (some ⟨E kc, 0, none⟩) := (hG.oldF hF 6 (by kernel_rfl) (by omega)).trans h6
      clear hc hp hG
      unfold Oper.wp; generalize a.eval = ρ at *; go_simp; exact hK g w' (fun _ _ => rfl) hM
    · intro l g a w' K hp hc hl hG hM hK
      have e81 : a.eval (.tmp 81) = .pointer (some ⟨E kc, 0, none⟩) := hG.of 81 5 (by kernel_rfl) (preAt hc 13 _ hp (by kernel_rfl))
      clear hc hp hG
      unfold Oper.wp; generalize a.eval = ρ at *; go_simp; exact hK g w' (fun _ _ => rfl) hM
    · intro l g a w' K hp hc hl hG hM hK
      have e82 : a.eval (.tmp 82) = .pointer (some ⟨E kc, 0, none⟩) := hG.of 82 6 (by kernel_rfl) (preAt hc 13 _ hp (by kernel_rfl))
      clear hc hp hG
      unfold Oper.wp; generalize a.eval = ρ at *; go_simp; exact hK g w' (fun _ _ => rfl) hM
    · intro l g a w' K hp hc hl hG hM hK
      have e83 : a.eval (.tmp 83) = .pointer (some ⟨E kc, 1, none⟩) := hG.of 83 7 (by kernel_rfl) (preAt hc 13 _ hp (by kernel_rfl))
      have kk := hM.1 (hc.not 9 13 hl (by kernel_rfl))
      subst kk
      clear hwd
      clear hc hp hG
      unfold Oper.wp; generalize a.eval = ρ at *; go_simp; exact hK g w' (fun _ _ => rfl) hM
    · intro l g a w' K hp hc hl hG hM hK
      have e80 : a.eval (.tmp 80) = .slice va len vc := hG.of 80 4 (by kernel_rfl) (preAt hc 13 _ hp (by kernel_rfl))
      have e84 : a.eval (.tmp 84) = .slice xa m c := hG.of 84 8 (by kernel_rfl) (preAt hc 13 _ hp (by kernel_rfl))
      have kk := hM.1 hl
      subst kk
      have h12 : l 12 = false := hc.not 12 13 hl (by kernel_rfl)
      refine HSl.out.wp ety38 (.tmp 80) (.tmp 84) rfl HS.out e80 xa m c ns e84 hnl hnew h1 hlen q' hq hz (fun v' w' hap => ?_)
      refine hK v' w' (fun i hi => by
              match i, hi with
              | 0, _ => rfl
              | 1, _ => rfl
              | 2, _ => rfl
              | 3, _ => rfl
              | 4, _ => rfl
              | 5, _ => rfl
              | 6, _ => rfl
              | 7, _ => rfl
              | 8, _ => rfl
              | 9, hi => exact absurd hi (by rw [hl]; decide)
              | 10, _ => rfl
              | 11, _ => rfl
              | 12, _ => rfl
              | _ + 13, _ => rfl) ⟨fun h => (by cases h), fun _ _ => hap, fun h => ?_⟩
      have h' : l 12 = true := h
      rw [h12] at h'
      cases h'
    · intro l g a w' K hp hc hl hG hM hK
      have e76 : a.eval (.tmp 76) = .pointer (some ⟨E kb, 0, none⟩) := hG.of 76 0 (by kernel_rfl) (preAt hc 13 _ hp (by kernel_rfl))
      clear hc hp hG
      unfold Oper.wp; generalize a.eval = ρ at *; go_simp; exact hK g w' (fun _ _ => rfl) hM
    · intro l g a w' K hp hc hl hG hM hK
      have e86 : a.eval (.tmp 86) = .pointer (some ⟨E kb, 0, none⟩) := hG.of 86 10 (by kernel_rfl) (preAt hc 13 _ hp (by kernel_rfl))
      clear hc hp hG
      unfold Oper.wp; generalize a.eval = ρ at *; go_simp; exact hK g w' (fun _ _ => rfl) hM
    · intro l g a w' K hp hc hl hG hM hK
      have e87 : a.eval (.tmp 87) = .pointer (some ⟨E kb, 1, none⟩) := hG.of 87 11 (by kernel_rfl) (preAt hc 13 _ hp (by kernel_rfl))
      have e85 : a.eval (.tmp 85) = g := hG.of 85 9 (by kernel_rfl) (preAt hc 13 _ hp (by kernel_rfl))
      have h9 : l 9 = true := preAt hc 13 _ hp (by kernel_rfl)
      have hap := hM.2.1 h9 hl
      obtain ⟨E', B', hS', hE', hB', cap', hsl'⟩ := hap
      obtain ⟨ga, gc, rfl, _, _⟩ := hsl'.form
      have hb' := (hB' kb hne).trans hb
      have kf : w'.frozen? ⟨E kb, 1, none⟩ = false := by rw [← hE' kb hne]; exact hS'.frz hb' 1
      have kv : w'.cell? ⟨E kb, 1, none⟩ = some (D 1) := by rw [← hE' kb hne]; exact hS'.val hb' (by omega)
      have fin := hK (.slice ga (len + m) gc) (w'.setCell ⟨E kb, 1, none⟩ (.slice ga (len + m) gc)) (fun _ _ => rfl) ⟨fun h => (by have : l 9 = false := h; rw [h9] at this; cases this), fun _ h => (by cases h), fun _ => ⟨w', ⟨E', B', hS', hE', hB', cap', hsl'⟩, rfl⟩⟩
      clear hK hc hp hG hM hS' hsl'
      unfold Oper.wp; generalize a.eval = ρ at *; go_simp; exact fin
  · intro l g x w' hl hv ho hM
    obtain ⟨w1, hap, rfl⟩ := hM.2.2 (hl 12 (show 12 < 13 by omega))
    exact HQ.out _ g w1 (fun s hs hw => ho s hs hw) hap
set_option maxHeartbeats 4000000 in
set_option maxRecDepth 100000 in
theorem j10 {F : (Nat → Value) → Act} (hF : Fr 136 F) {w0 w : World} {E : Lab → Nat} {B : Lab → Option Lb} {kb kc : Lab} {D Dc : Nat → Value} {a4 : Option Addr} {l4 c4 : Nat} {z2 z5 : Int} {f : Nat → Value} {Q : Exit → Act → World → Prop}
    (hS : Sg w0 w E B) (hb : B kb = some (vals 45 6 D)) (hbc : B kc = some (vals 45 6 Dc)) (hne : kc ≠ kb) (hd2 : Dc 2 = .int .u8 z2) (hd3 : Dc 3 = .pointer none) (hd4 : Dc 4 = .slice a4 l4 c4) (hd5 : Dc 5 = .int .i64 z5) (h5 : f 5 = .pointer (some ⟨E kb, 0, none⟩)) (h6 : f 6 = .pointer (some ⟨E kc, 0, none⟩))
    (hQ : ∀ x w', (∀ s, s < 136 → wrF (opsL (Ybaz.f8.body.bind (regAt 10))) 0 s = none → x s = f s) → Sg w0 w' E (lup B kb (some (vals 45 6 (fun s => if s = 2 then .int .u8 z2 else if s = 3 then .pointer none else if s = 4 then .slice a4 l4 c4 else if s = 5 then .int .i64 z5 else D s)))) → Q .normal (F x) w') :
    ((Ybaz.f8.body.bind (regAt 10)).getD .skip).wp Ybaz.prog Q (F f) w := by
  conv => arg 2; whnf
  have HQ : Hid (∀ x w', (∀ s, s < 136 → wrF (opsL (Ybaz.f8.body.bind (regAt 10))) 0 s = none → x s = f s) → Sg w0 w' E (lup B kb (some (vals 45 6 (fun s => if s = 2 then .int .u8 z2 else if s = 3 then .pointer none else if s = 4 then .slice a4 l4 c4 else if s = 5 then .int .i64 z5 else D s)))) → Q .normal (F x) w') := hQ
  have H0 : Hid (Sg w0 w.drew E (lup B kb (some (vals 45 6 D)))) := by
    have : lup B kb (some (vals 45 6 D)) = B := by
      funext j
      by_cases e : j = kb
      · subst e; rw [lup_same, hb]
      · rw [lup_other _ _ e]
    rw [this]; exact hS.drew
  clear hQ hS
  refine region_frm hF (γ := Unit) (fun op9 g => match op9 with
    | 0 => .pointer (some ⟨E kb, 0, none⟩)
    | 1 => .pointer (some ⟨E kb, 0, none⟩)
    | 2 => .pointer (some ⟨E kb, 0, none⟩)
    | 3 => .pointer (some ⟨E kb, 0, none⟩)
    | 4 => .pointer (some ⟨E kc, 0, none⟩)
    | 5 => .pointer (some ⟨E kc, 0, none⟩)
    | 6 => .pointer (some ⟨E kc, 2, none⟩)
    | 7 => .int .u8 z2
    | 8 => .pointer (some ⟨E kc, 0, none⟩)
    | 9 => .pointer (some ⟨E kc, 0, none⟩)
    | 10 => .pointer (some ⟨E kc, 3, none⟩)
    | 11 => .pointer none
    | 12 => .pointer (some ⟨E kc, 0, none⟩)
    | 13 => .pointer (some ⟨E kc, 0, none⟩)
    | 14 => .pointer (some ⟨E kc, 4, none⟩)
    | 15 => .slice a4 l4 c4
    | 16 => .pointer (some ⟨E kc, 0, none⟩)
    | 17 => .pointer (some ⟨E kc, 0, none⟩)
    | 18 => .pointer (some ⟨E kc, 5, none⟩)
    | 19 => .int .i64 z5
    | 20 => .pointer (some ⟨E kb, 0, none⟩)
    | 21 => .pointer (some ⟨E kb, 2, none⟩)
    | 22 => undef
    | 23 => .pointer (some ⟨E kb, 0, none⟩)
    | 24 => .pointer (some ⟨E kb, 3, none⟩)
    | 25 => undef
    | 26 => .pointer (some ⟨E kb, 0, none⟩)
    | 27 => .pointer (some ⟨E kb, 4, none⟩)
    | 28 => undef
    | 29 => .pointer (some ⟨E kb, 0, none⟩)
    | 30 => .pointer (some ⟨E kb, 5, none⟩)
    | 31 => undef
    | _ => undef) (fun l _ w' => Sg w0 w' E (lup B kb (some (vals 45 6 (fun s => if s = 2 ∧ l 22 = true then .int .u8 z2 else if s = 3 ∧ l 25 = true then .pointer none else if s = 4 ∧ l 28 = true then .slice a4 l4 c4 else if s = 5 ∧ l 31 = true then .int .i64 z5 else D s))))) () (by kernel_rfl) (by kernel_rfl) (by simpa using H0.out) ?_ ?_
  · refine ⟨?_, ?_, ?_, ?_, ?_, ?_, ?_, ?_, ?_, ?_, ?_, ?_, ?_, ?_, ?_, ?_, ?_, ?_, ?_, ?_, ?_, ?_, ?_, ?_, ?_, ?_, ?_, ?_, ?_, ?_, ?_, ?_, trivial⟩
    · intro l g a w' K hp hc hl hG hM hK
      have e5 : a.eval (.tmp 5) = .pointer (some ⟨E kb, 0, none⟩) := (hG.oldF hF 5 (by kernel_rfl) (by omega)).trans h5
      clear hc hp hG
      unfold Oper.wp; generalize a.eval = ρ at *; go_simp; exact hK g w' (fun _ _ => rfl) hM
    · intro l g a w' K hp hc hl hG hM hK
      have e5 : a.eval (.tmp 5) = .pointer (some ⟨E kb, 0, none⟩) := (hG.oldF hF 5 (by kernel_rfl) (by omega)).trans h5
      clear hc hp hG
      unfold Oper.wp; generalize a.eval = ρ at *; go_simp; exact hK g w' (fun _ _ => rfl) hM
    · intro l g a w' K hp hc hl hG hM hK
      have e5 : a.eval (.tmp 5) = .pointer (some ⟨E kb, 0, none⟩) := (hG.oldF hF 5 (by kernel_rfl) (by omega)).trans h5
      clear hc hp hG
      unfold Oper.wp; generalize a.eval = ρ at *; go_simp; exact hK g w' (fun _ _ => rfl) hM
    · intro l g a w' K hp hc hl hG hM hK
      have e5 : a.eval (.tmp 5) = .pointer (some ⟨E kb, 0, none⟩) := (hG.oldF hF 5 (by kernel_rfl) (by omega)).trans h5
      clear hc hp hG
      unfold Oper.wp; generalize a.eval = ρ at *; go_simp; exact hK g w' (fun _ _ => rfl) hM
    · intro l g a w' K hp hc hl hG hM hK
      have e6 : a.eval (.tmp 6) = .pointer (some ⟨E kc, 0, none⟩) := (hG.oldF hF 6 (by kernel_rfl) (by omega)).trans h6
      clear hc hp hG
      unfold Oper.wp; generalize a.eval = ρ at *; go_simp; exact hK g w' (fun _ _ => rfl) hM
    · intro l g a w' K hp hc hl hG hM hK
      have e92 : a.eval (.tmp 92) = .pointer (some ⟨E kc, 0, none⟩) := hG.of 92 4 (by kernel_rfl) (preAt hc 32 _ hp (by kernel_rfl))
      clear hc hp hG
      unfold Oper.wp; generalize a.eval = ρ at *; go_simp; exact hK g w' (fun _ _ => rfl) hM
    · intro l g a w' K hp hc hl hG hM hK
      have e93 : a.eval (.tmp 93) = .pointer (some ⟨E kc, 0, none⟩) := hG.of 93 5 (by kernel_rfl) (preAt hc 32 _ hp (by kernel_rfl))
      clear hc hp hG
      unfold Oper.wp; generalize a.eval = ρ at *; go_simp; exact hK g w' (fun _ _ => rfl) hM
    · intro l g a w' K hp hc hl hG hM hK
      have e94 : a.eval (.tmp 94) = .pointer (some ⟨E kc, 2, none⟩) := hG.of 94 6 (by kernel_rfl) (preAt hc 32 _ hp (by kernel_rfl))
      have kk := hM.val (k := kc) (by rw [lup_other _ _ hne]; exact hbc) (i := 2) (by omega)
      rw [hd2] at kk
      clear hc hp hG
      unfold Oper.wp; generalize a.eval = ρ at *; go_simp; exact hK g w' (fun _ _ => rfl) hM
    · intro l g a w' K hp hc hl hG hM hK
      have e6 : a.eval (.tmp 6) = .pointer (some ⟨E kc, 0, none⟩) := (hG.oldF hF 6 (by kernel_rfl) (by omega)).trans h6
      clear hc hp hG
      unfold Oper.wp; generalize a.eval = ρ at *; go_simp; exact hK g w' (fun _ _ => rfl) hM
    · intro l g a w' K hp hc hl hG hM hK
      have e96 : a.eval (.tmp 96) = .pointer (some ⟨E kc, 0, none⟩) := hG.of 96 8 (by kernel_rfl) (preAt hc 32 _ hp (by kernel_rfl))
      clear hc hp hG
      unfold Oper.wp; generalize a.eval = ρ at *; go_simp; exact hK g w' (fun _ _ => rfl) hM
    · intro l g a w' K hp hc hl hG hM hK
      have e97 : a.eval (.tmp 97) = .pointer (some ⟨E kc, 0, none⟩) := hG.of 97 9 (by kernel_rfl) (preAt hc 32 _ hp (by kernel_rfl))
      clear hc hp hG
      unfold Oper.wp; generalize a.eval = ρ at *; go_simp; exact hK g w' (fun _ _ => rfl) hM
    · intro l g a w' K hp hc hl hG hM hK
      have e98 : a.eval (.tmp 98) = .pointer (some ⟨E kc, 3, none⟩) := hG.of 98 10 (by kernel_rfl) (preAt hc 32 _ hp (by kernel_rfl))
      have kk := hM.val (k := kc) (by rw [lup_other _ _ hne]; exact hbc) (i := 3) (by omega)
      rw [hd3] at kk
      clear hc hp hG
      unfold Oper.wp; generalize a.eval = ρ at *; go_simp; exact hK g w' (fun _ _ => rfl) hM
    · intro l g a w' K hp hc hl hG hM hK
      have e6 : a.eval (.tmp 6) = .pointer (some ⟨E kc, 0, none⟩) := (hG.oldF hF 6 (by kernel_rfl) (by omega)).trans h6
      clear hc hp hG
      unfold Oper.wp; generalize a.eval = ρ at *; go_simp; exact hK g w' (fun _ _ => rfl) hM
    · intro l g a w' K hp hc hl hG hM hK
      have e100 : a.eval (.tmp 100) = .pointer (some ⟨E kc, 0, none⟩) := hG.of 100 12 (by kernel_rfl) (preAt hc 32 _ hp (by kernel_rfl))
      clear hc hp hG
      unfold Oper.wp; generalize a.eval = ρ at *; go_simp; exact hK g w' (fun _ _ => rfl) hM
    · intro l g a w' K hp hc hl hG hM hK
      have e101 : a.eval (.tmp 101) = .pointer (some ⟨E kc, 0, none⟩) := hG.of 101 13 (by kernel_rfl) (preAt hc 32 _ hp (by kernel_rfl))
      clear hc hp hG
      unfold Oper.wp; generalize a.eval = ρ at *; go_simp; exact hK g w' (fun _ _ => rfl) hM
    · intro l g a w' K hp hc hl hG hM hK
      have e102 : a.eval (.tmp 102) = .pointer (some ⟨E kc, 4, none⟩) := hG.of 102 14 (by kernel_rfl) (preAt hc 32 _ hp (by kernel_rfl))
      have kk := hM.val (k := kc) (by rw [lup_other _ _ hne]; exact hbc) (i := 4) (by omega)
      rw [hd4] at kk
      clear hc hp hG
      unfold Oper.wp; generalize a.eval = ρ at *; go_simp; exact hK g w' (fun _ _ => rfl) hM
    · intro l g a w' K hp hc hl hG hM hK
      have e6 : a.eval (.tmp 6) = .pointer (some ⟨E kc, 0, none⟩) := (hG.oldF hF 6 (by kernel_rfl) (by omega)).trans h6
      clear hc hp hG
      unfold Oper.wp; generalize a.eval = ρ at *; go_simp; exact hK g w' (fun _ _ => rfl) hM
    · intro l g a w' K hp hc hl hG hM hK
      have e104 : a.eval (.tmp 104) = .pointer (some ⟨E kc, 0, none⟩) := hG.of 104 16 (by kernel_rfl) (preAt hc 32 _ hp (by kernel_rfl))
      clear hc hp hG
      unfold Oper.wp; generalize a.eval = ρ at *; go_simp; exact hK g w' (fun _ _ => rfl) hM
    · intro l g a w' K hp hc hl hG hM hK
      have e105 : a.eval (.tmp 105) = .pointer (some ⟨E kc, 0, none⟩) := hG.of 105 17 (by kernel_rfl) (preAt hc 32 _ hp (by kernel_rfl))
      clear hc hp hG
      unfold Oper.wp; generalize a.eval = ρ at *; go_simp; exact hK g w' (fun _ _ => rfl) hM
    · intro l g a w' K hp hc hl hG hM hK
      have e106 : a.eval (.tmp 106) = .pointer (some ⟨E kc, 5, none⟩) := hG.of 106 18 (by kernel_rfl) (preAt hc 32 _ hp (by kernel_rfl))
      have kk := hM.val (k := kc) (by rw [lup_other _ _ hne]; exact hbc) (i := 5) (by omega)
      rw [hd5] at kk
      clear hc hp hG
      unfold Oper.wp; generalize a.eval = ρ at *; go_simp; exact hK g w' (fun _ _ => rfl) hM
    · intro l g a w' K hp hc hl hG hM hK
      have e88 : a.eval (.tmp 88) = .pointer (some ⟨E kb, 0, none⟩) := hG.of 88 0 (by kernel_rfl) (preAt hc 32 _ hp (by kernel_rfl))
      clear hc hp hG
      unfold Oper.wp; generalize a.eval = ρ at *; go_simp; exact hK g w' (fun _ _ => rfl) hM
    · intro l g a w' K hp hc hl hG hM hK
      have e108 : a.eval (.tmp 108) = .pointer (some ⟨E kb, 0, none⟩) := hG.of 108 20 (by kernel_rfl) (preAt hc 32 _ hp (by kernel_rfl))
      clear hc hp hG
      unfold Oper.wp; generalize a.eval = ρ at *; go_simp; exact hK g w' (fun _ _ => rfl) hM
    · intro l g a w' K hp hc hl hG hM hK
      have e109 : a.eval (.tmp 109) = .pointer (some ⟨E kb, 2, none⟩) := hG.of 109 21 (by kernel_rfl) (preAt hc 32 _ hp (by kernel_rfl))
      have e95 : a.eval (.tmp 95) = .int .u8 z2 := hG.of 95 7 (by kernel_rfl) (preAt hc 32 _ hp (by kernel_rfl))
      have kf := hM.frz (lup_same _ _ _) 2
      have kv := hM.val (lup_same _ _ _) (i := 2) (by omega)
      have fin := hK g (w'.setCell ⟨E kb, 2, none⟩ (.int .u8 z2)) (fun _ _ => rfl) (by
        have := hM.setVal (lup_same _ _ _) 2 (.int .u8 z2)
        rw [lup_lup] at this
        refine this.reval (fun s => ?_)
        by_cases e : s = 2
        · subst e; rw [upd_same]; simp [upd]
        · rw [upd_other _ _ e]; simp [e, upd])
      clear hK hc hp hG hM
      unfold Oper.wp; generalize a.eval = ρ at *; go_simp; exact fin
    · intro l g a w' K hp hc hl hG hM hK
      have e89 : a.eval (.tmp 89) = .pointer (some ⟨E kb, 0, none⟩) := hG.of 89 1 (by kernel_rfl) (preAt hc 32 _ hp (by kernel_rfl))
      clear hc hp hG
      unfold Oper.wp; generalize a.eval = ρ at *; go_simp; exact hK g w' (fun _ _ => rfl) hM
    · intro l g a w' K hp hc hl hG hM hK
      have e110 : a.eval (.tmp 110) = .pointer (some ⟨E kb, 0, none⟩) := hG.of 110 23 (by kernel_rfl) (preAt hc 32 _ hp (by kernel_rfl))
      clear hc hp hG
      unfold Oper.wp; generalize a.eval = ρ at *; go_simp; exact hK g w' (fun _ _ => rfl) hM
    · intro l g a w' K hp hc hl hG hM hK
      have e111 : a.eval (.tmp 111) = .pointer (some ⟨E kb, 3, none⟩) := hG.of 111 24 (by kernel_rfl) (preAt hc 32 _ hp (by kernel_rfl))
      have e99 : a.eval (.tmp 99) = .pointer none := hG.of 99 11 (by kernel_rfl) (preAt hc 32 _ hp (by kernel_rfl))
      have kf := hM.frz (lup_same _ _ _) 3
      have kv := hM.val (lup_same _ _ _) (i := 3) (by omega)
      have fin := hK g (w'.setCell ⟨E kb, 3, none⟩ (.pointer none)) (fun _ _ => rfl) (by
        have := hM.setVal (lup_same _ _ _) 3 (.pointer none)
        rw [lup_lup] at this
        refine this.reval (fun s => ?_)
        by_cases e : s = 3
        · subst e; rw [upd_same]; simp [upd]
        · rw [upd_other _ _ e]; simp [e, upd])
      clear hK hc hp hG hM
      unfold Oper.wp; generalize a.eval = ρ at *; go_simp; exact fin
    · intro l g a w' K hp hc hl hG hM hK
      have e90 : a.eval (.tmp 90) = .pointer (some ⟨E kb, 0, none⟩) := hG.of 90 2 (by kernel_rfl) (preAt hc 32 _ hp (by kernel_rfl))
      clear hc hp hG
      unfold Oper.wp; generalize a.eval = ρ at *; go_simp; exact hK g w' (fun _ _ => rfl) hM
    · intro l g a w' K hp hc hl hG hM hK
      have e112 : a.eval (.tmp 112) = .pointer (some ⟨E kb, 0, none⟩) := hG.of 112 26 (by kernel_rfl) (preAt hc 32 _ hp (by kernel_rfl))
      clear hc hp hG
      unfold Oper.wp; generalize a.eval = ρ at *; go_simp; exact hK g w' (fun _ _ => rfl) hM
    · intro l g a w' K hp hc hl hG hM hK
      have e113 : a.eval (.tmp 113) = .pointer (some ⟨E kb, 4, none⟩) := hG.of 113 27 (by kernel_rfl) (preAt hc 32 _ hp (by kernel_rfl))
      have e103 : a.eval (.tmp 103) = .slice a4 l4 c4 := hG.of 103 15 (by kernel_rfl) (preAt hc 32 _ hp (by kernel_rfl))
      have kf := hM.frz (lup_same _ _ _) 4
      have kv := hM.val (lup_same _ _ _) (i := 4) (by omega)
      have fin := hK g (w'.setCell ⟨E kb, 4, none⟩ (.slice a4 l4 c4)) (fun _ _ => rfl) (by
        have := hM.setVal (lup_same _ _ _) 4 (.slice a4 l4 c4)
        rw [lup_lup] at this
        refine this.reval (fun s => ?_)
        by_cases e : s = 4
        · subst e; rw [upd_same]; simp [upd]
        · rw [upd_other _ _ e]; simp [e, upd])
      clear hK hc hp hG hM
      unfold Oper.wp; generalize a.eval = ρ at *; go_simp; exact fin
    · intro l g a w' K hp hc hl hG hM hK
      have e91 : a.eval (.tmp 91) = .pointer (some ⟨E kb, 0, none⟩) := hG.of 91 3 (by kernel_rfl) (preAt hc 32 _ hp (by kernel_rfl))
      clear hc hp hG
      unfold Oper.wp; generalize a.eval = ρ at *; go_simp; exact hK g w' (fun _ _ => rfl) hM
    · intro l g a w' K hp hc hl hG hM hK
      have e114 : a.eval (.tmp 114) = .pointer (some ⟨E kb, 0, none⟩) := hG.of 114 29 (by kernel_rfl) (preAt hc 32 _ hp (by kernel_rfl))
      clear hc hp hG
      unfold Oper.wp; generalize a.eval = ρ at *; go_simp; exact hK g w' (fun _ _ => rfl) hM
    · intro l g a w' K hp hc hl hG hM hK
      have e115 : a.eval (.tmp 115) = .pointer (some ⟨E kb, 5, none⟩) := hG.of 115 30 (by kernel_rfl) (preAt hc 32 _ hp (by kernel_rfl))
      have e107 : a.eval (.tmp 107) = .int .i64 z5 := hG.of 107 19 (by kernel_rfl) (preAt hc 32 _ hp (by kernel_rfl))
      have kf := hM.frz (lup_same _ _ _) 5
      have kv := hM.val (lup_same _ _ _) (i := 5) (by omega)
      have fin := hK g (w'.setCell ⟨E kb, 5, none⟩ (.int .i64 z5)) (fun _ _ => rfl) (by
        have := hM.setVal (lup_same _ _ _) 5 (.int .i64 z5)
        rw [lup_lup] at this
        refine this.reval (fun s => ?_)
        by_cases e : s = 5
        · subst e; rw [upd_same]; simp [upd]
        · rw [upd_other _ _ e]; simp [e, upd])
      clear hK hc hp hG hM
      unfold Oper.wp; generalize a.eval = ρ at *; go_simp; exact fin
  · intro l g x w' hl hv ho hM
    refine HQ.out _ w' (fun s hs hw => ho s hs hw) (hM.reval (fun s => ?_))
    rw [hl 22 (show 22 < 32 by omega), hl 25 (show 25 < 32 by omega), hl 28 (show 28 < 32 by omega), hl 31 (show 31 < 32 by omega)]
    simp
end Go.Proofs.YbulkexmzaGreat
