/-
  Liveness (19): regions 20 and 26.
-/
import Derived.Test.YbulkexmzaGreatLi
namespace Go.Proofs.YbulkexmzaGreat
open Go.RowKit
set_option maxHeartbeats 4000000 in
set_option maxRecDepth 100000 in
theorem l20 {F : (Nat → Value) → Act} (hF : Fr 371 F) {w : World} {f : Nat → Value} {Q : Exit → Act → World → Prop} {e0 e1 e2 tb t c n : Nat} (k1 : w.cell? ⟨e1, 0, none⟩ = some (.pointer (some ⟨e0, 0, none⟩))) (k3 : w.cell? ⟨e0, 3, none⟩ = some (.slice (some ⟨e2, 0, none⟩) (n + 1) (n + 1))) (kid : w.cell? ⟨tb, 0, none⟩ = some (.int .i64 (t : Nat))) (kc : w.cell? ⟨e2, t + 1, none⟩ = some (.int .i64 (c : Nat))) (kf : w.frozen? ⟨e2, t + 1, none⟩ = false) (ht : t < n) (hn : n ≤ 100000) (hc9 : c ≤ 100000) (h7 : f 7 = .pointer (some ⟨e1, 0, none⟩)) (h15 : f 15 = .pointer (some ⟨tb, 0, none⟩))
    (hQ : ∀ x, (∀ s, s < 371 → wrF (opsL (Ybaz.f19.body.bind (regAt 20))) 0 s = none → x s = f s) → Q .normal (F x) (w.drew.setCell ⟨e2, t + 1, none⟩ (.int .i64 ((c : Int) + 1)))) :
    ((Ybaz.f19.body.bind (regAt 20)).getD .skip).wp Ybaz.prog Q (F f) w := by
  conv => arg 2; whnf
  have hb1n : ¬ ((t : Int) + 1 < 0) := by omega
  have hb1p : (0 : Int) ≤ (t : Int) + 1 := by omega
  have hb1t : ((t : Int) + 1).toNat = t + 1 := by omega
  have hwr : IntKind.i64.wrap ((t : Int) + 1) = (t : Int) + 1 := by rw [IntKind.wrap_i64]; omega
  have hbz : (t : Int) < (n : Int) + 1 := by omega
  have hbzz : (t : Int) < (n : Int) := by omega
  have hwc : IntKind.i64.wrap ((c : Int) + 1) = (c : Int) + 1 := by rw [IntKind.wrap_i64]; omega
  have HQ : Hid (∀ x, (∀ s, s < 371 → wrF (opsL (Ybaz.f19.body.bind (regAt 20))) 0 s = none → x s = f s) → Q .normal (F x) (w.drew.setCell ⟨e2, t + 1, none⟩ (.int .i64 ((c : Int) + 1)))) := hQ
  clear hQ
  refine region_frm hF (γ := Unit) (fun op9 g => match op9 with
    | 0 => .pointer (some ⟨e0, 0, none⟩)
    | 1 => .pointer (some ⟨e0, 0, none⟩)
    | 2 => .pointer (some ⟨e0, 3, none⟩)
    | 3 => .slice (some ⟨e2, 0, none⟩) (n + 1) (n + 1)
    | 4 => .pointer (some ⟨tb, 0, none⟩)
    | 5 => .pointer (some ⟨tb, 0, none⟩)
    | 6 => .pointer (some ⟨tb, 0, none⟩)
    | 7 => .int .i64 (t : Nat)
    | 8 => .int .i64 ((t : Int) + 1)
    | 9 => .pointer (some ⟨e2, t + 1, none⟩)
    | 10 => .int .i64 (c : Nat)
    | 11 => .int .i64 ((c : Int) + 1)
    | 12 => .pointer (some ⟨e2, t + 1, none⟩)
    | 13 => undef
    | _ => undef) (fun l _ w' => (l 13 = false → w' = w.drew) ∧ (l 13 = true → w' = w.drew.setCell ⟨e2, t + 1, none⟩ (.int .i64 ((c : Int) + 1)))) () (by kernel_rfl) (by kernel_rfl) ⟨fun _ => rfl, fun h => (by cases h)⟩ ?_ ?_
  · refine ⟨?_, ?_, ?_, ?_, ?_, ?_, ?_, ?_, ?_, ?_, ?_, ?_, ?_, ?_, trivial⟩
    · intro l g a w' K hp hc hl hG hM hK
      have e7 : a.eval (.tmp 7) = .pointer (some ⟨e1, 0, none⟩) := (hG.oldF hF 7 (by kernel_rfl) (by omega)).trans h7
      have h9l : l 13 = false := hc.not 13 14 hl (by kernel_rfl)
      obtain rfl := hM.1 h9l
      have fin := hK g _ (fun _ _ => rfl) ⟨fun _ => rfl, fun h => absurd h (by rw [upd_other _ _ (by omega), h9l]; decide)⟩
      clear hK hc hp hG hM h9l
      unfold Oper.wp; generalize a.eval = ρ at *; go_simp; exact fin
    · intro l g a w' K hp hc hl hG hM hK
      have e116 : a.eval (.tmp 116) = .pointer (some ⟨e0, 0, none⟩) := hG.of 116 0 (by kernel_rfl) (preAt hc 14 _ hp (by kernel_rfl))
      have h9l : l 13 = false := hc.not 13 14 hl (by kernel_rfl)
      obtain rfl := hM.1 h9l
      have fin := hK g _ (fun _ _ => rfl) ⟨fun _ => rfl, fun h => absurd h (by rw [upd_other _ _ (by omega), h9l]; decide)⟩
      clear hK hc hp hG hM h9l
      unfold Oper.wp; generalize a.eval = ρ at *; go_simp; exact fin
    · intro l g a w' K hp hc hl hG hM hK
      have e117 : a.eval (.tmp 117) = .pointer (some ⟨e0, 0, none⟩) := hG.of 117 1 (by kernel_rfl) (preAt hc 14 _ hp (by kernel_rfl))
      have h9l : l 13 = false := hc.not 13 14 hl (by kernel_rfl)
      obtain rfl := hM.1 h9l
      have fin := hK g _ (fun _ _ => rfl) ⟨fun _ => rfl, fun h => absurd h (by rw [upd_other _ _ (by omega), h9l]; decide)⟩
      clear hK hc hp hG hM h9l
      unfold Oper.wp; generalize a.eval = ρ at *; go_simp; exact fin
    · intro l g a w' K hp hc hl hG hM hK
      have e118 : a.eval (.tmp 118) = .pointer (some ⟨e0, 3, none⟩) := hG.of 118 2 (by kernel_rfl) (preAt hc 14 _ hp (by kernel_rfl))
      have h9l : l 13 = false := hc.not 13 14 hl (by kernel_rfl)
      obtain rfl := hM.1 h9l
      have fin := hK g _ (fun _ _ => rfl) ⟨fun _ => rfl, fun h => absurd h (by rw [upd_other _ _ (by omega), h9l]; decide)⟩
      clear hK hc hp hG hM h9l
      unfold Oper.wp; generalize a.eval = ρ at *; go_simp; exact fin
    · intro l g a w' K hp hc hl hG hM hK
      have e15 : a.eval (.tmp 15) = .pointer (some ⟨tb, 0, none⟩) := (hG.oldF hF 15 (by kernel_rfl) (by omega)).trans h15
      have h9l : l 13 = false := hc.not 13 14 hl (by kernel_rfl)
      obtain rfl := hM.1 h9l
      have fin := hK g _ (fun _ _ => rfl) ⟨fun _ => rfl, fun h => absurd h (by rw [upd_other _ _ (by omega), h9l]; decide)⟩
      clear hK hc hp hG hM h9l
      unfold Oper.wp; generalize a.eval = ρ at *; go_simp; exact fin
    · intro l g a w' K hp hc hl hG hM hK
      have e120 : a.eval (.tmp 120) = .pointer (some ⟨tb, 0, none⟩) := hG.of 120 4 (by kernel_rfl) (preAt hc 14 _ hp (by kernel_rfl))
      have h9l : l 13 = false := hc.not 13 14 hl (by kernel_rfl)
      obtain rfl := hM.1 h9l
      have fin := hK g _ (fun _ _ => rfl) ⟨fun _ => rfl, fun h => absurd h (by rw [upd_other _ _ (by omega), h9l]; decide)⟩
      clear hK hc hp hG hM h9l
      unfold Oper.wp; generalize a.eval = ρ at *; go_simp; exact fin
    · intro l g a w' K hp hc hl hG hM hK
      have e121 : a.eval (.tmp 121) = .pointer (some ⟨tb, 0, none⟩) := hG.of 121 5 (by kernel_rfl) (preAt hc 14 _ hp (by kernel_rfl))
      have h9l : l 13 = false := hc.not 13 14 hl (by kernel_rfl)
      obtain rfl := hM.1 h9l
      have fin := hK g _ (fun _ _ => rfl) ⟨fun _ => rfl, fun h => absurd h (by rw [upd_other _ _ (by omega), h9l]; decide)⟩
      clear hK hc hp hG hM h9l
      unfold Oper.wp; generalize a.eval = ρ at *; go_simp; exact fin
    · intro l g a w' K hp hc hl hG hM hK
      have e122 : a.eval (.tmp 122) = .pointer (some ⟨tb, 0, none⟩) := hG.of 122 6 (by kernel_rfl) (preAt hc 14 _ hp (by kernel_rfl))
      have h9l : l 13 = false := hc.not 13 14 hl (by kernel_rfl)
      obtain rfl := hM.1 h9l
      have fin := hK g _ (fun _ _ => rfl) ⟨fun _ => rfl, fun h => absurd h (by rw [upd_other _ _ (by omega), h9l]; decide)⟩
      clear hK hc hp hG hM h9l
      unfold Oper.wp; generalize a.eval = ρ at *; go_simp; exact fin
    · intro l g a w' K hp hc hl hG hM hK
      have e123 : a.eval (.tmp 123) = .int .i64 (t : Nat) := hG.of 123 7 (by kernel_rfl) (preAt hc 14 _ hp (by kernel_rfl))
      have ec : ∀ v, a.eval (.const v) = v := fun _ => rfl
      have h9l : l 13 = false := hc.not 13 14 hl (by kernel_rfl)
      obtain rfl := hM.1 h9l
      have fin := hK g _ (fun _ _ => rfl) ⟨fun _ => rfl, fun h => absurd h (by rw [upd_other _ _ (by omega), h9l]; decide)⟩
      clear hK hc hp hG hM h9l
      unfold Oper.wp; generalize a.eval = ρ at *; go_simp; exact fin
    · intro l g a w' K hp hc hl hG hM hK
      have e119 : a.eval (.tmp 119) = .slice (some ⟨e2, 0, none⟩) (n + 1) (n + 1) := hG.of 119 3 (by kernel_rfl) (preAt hc 14 _ hp (by kernel_rfl))
      have e124 : a.eval (.tmp 124) = .int .i64 ((t : Int) + 1) := hG.of 124 8 (by kernel_rfl) (preAt hc 14 _ hp (by kernel_rfl))
      have h9l : l 13 = false := hc.not 13 14 hl (by kernel_rfl)
      obtain rfl := hM.1 h9l
      have fin := hK g _ (fun _ _ => rfl) ⟨fun _ => rfl, fun h => absurd h (by rw [upd_other _ _ (by omega), h9l]; decide)⟩
      clear hK hc hp hG hM h9l
      unfold Oper.wp; generalize a.eval = ρ at *; go_simp; exact fin
    · intro l g a w' K hp hc hl hG hM hK
      have e125 : a.eval (.tmp 125) = .pointer (some ⟨e2, t + 1, none⟩) := hG.of 125 9 (by kernel_rfl) (preAt hc 14 _ hp (by kernel_rfl))
      have h9l : l 13 = false := hc.not 13 14 hl (by kernel_rfl)
      obtain rfl := hM.1 h9l
      have fin := hK g _ (fun _ _ => rfl) ⟨fun _ => rfl, fun h => absurd h (by rw [upd_other _ _ (by omega), h9l]; decide)⟩
      clear hK hc hp hG hM h9l
      unfold Oper.wp; generalize a.eval = ρ at *; go_simp; exact fin
    · intro l g a w' K hp hc hl hG hM hK
      have e126 : a.eval (.tmp 126) = .int .i64 (c : Nat) := hG.of 126 10 (by kernel_rfl) (preAt hc 14 _ hp (by kernel_rfl))
      have ec : ∀ v, a.eval (.const v) = v := fun _ => rfl
      have h9l : l 13 = false := hc.not 13 14 hl (by kernel_rfl)
      obtain rfl := hM.1 h9l
      have fin := hK g _ (fun _ _ => rfl) ⟨fun _ => rfl, fun h => absurd h (by rw [upd_other _ _ (by omega), h9l]; decide)⟩
      clear hK hc hp hG hM h9l
      unfold Oper.wp; generalize a.eval = ρ at *; go_simp; exact fin
    · intro l g a w' K hp hc hl hG hM hK
      have e119 : a.eval (.tmp 119) = .slice (some ⟨e2, 0, none⟩) (n + 1) (n + 1) := hG.of 119 3 (by kernel_rfl) (preAt hc 14 _ hp (by kernel_rfl))
      have e124 : a.eval (.tmp 124) = .int .i64 ((t : Int) + 1) := hG.of 124 8 (by kernel_rfl) (preAt hc 14 _ hp (by kernel_rfl))
      have h9l : l 13 = false := hc.not 13 14 hl (by kernel_rfl)
      obtain rfl := hM.1 h9l
      have fin := hK g _ (fun _ _ => rfl) ⟨fun _ => rfl, fun h => absurd h (by rw [upd_other _ _ (by omega), h9l]; decide)⟩
      clear hK hc hp hG hM h9l
      unfold Oper.wp; generalize a.eval = ρ at *; go_simp; exact fin
    · intro l g a w' K hp hc hl hG hM hK
      have e128 : a.eval (.tmp 128) = .pointer (some ⟨e2, t + 1, none⟩) := hG.of 128 12 (by kernel_rfl) (preAt hc 14 _ hp (by kernel_rfl))
      have e127 : a.eval (.tmp 127) = .int .i64 ((c : Int) + 1) := hG.of 127 11 (by kernel_rfl) (preAt hc 14 _ hp (by kernel_rfl))
      obtain rfl := hM.1 hl
      have fin := hK g (w.drew.setCell ⟨e2, t + 1, none⟩ (.int .i64 ((c : Int) + 1))) (fun _ _ => rfl) ⟨fun h' => absurd h' (by rw [upd_same]; decide), fun _ => rfl⟩
      clear hK hc hp hG hM
      unfold Oper.wp; generalize a.eval = ρ at *; go_simp; exact fin
  · intro l g x w' hl hv ho hM
    have hpost := hM.2 (hl 13 (show 13 < 14 by omega))
    subst hpost
    exact HQ.out x (fun s hs hw => ho s hs hw)
set_option maxHeartbeats 4000000 in
set_option maxRecDepth 100000 in
theorem l26 {F : (Nat → Value) → Act} (hF : Fr 371 F) {w : World} {f : Nat → Value} {Q : Exit → Act → World → Prop} {e0 e1 e2 t c d n : Nat} (k1 : w.cell? ⟨e1, 0, none⟩ = some (.pointer (some ⟨e0, 0, none⟩))) (k3 : w.cell? ⟨e0, 3, none⟩ = some (.slice (some ⟨e2, 0, none⟩) (n + 1) (n + 1))) (kd : w.cell? ⟨e2, t, none⟩ = some (.int .i64 (d : Nat))) (kc : w.cell? ⟨e2, t + 1, none⟩ = some (.int .i64 (c : Nat))) (kf : w.frozen? ⟨e2, t + 1, none⟩ = false) (ht : t < n) (hn : n ≤ 100000) (hc9 : c ≤ 100000) (hd9 : d ≤ 100000) (h7 : f 7 = .pointer (some ⟨e1, 0, none⟩)) (h16 : f 16 = .int .i64 (t : Nat))
    (hQ : ∀ x, (∀ s, s < 371 → wrF (opsL (Ybaz.f19.body.bind (regAt 26))) 0 s = none → x s = f s) → Q .normal (F x) (w.drew.setCell ⟨e2, t + 1, none⟩ (.int .i64 ((c : Int) + (d : Int))))) :
    ((Ybaz.f19.body.bind (regAt 26)).getD .skip).wp Ybaz.prog Q (F f) w := by
  conv => arg 2; whnf
  have hb1n : ¬ ((t : Int) + 1 < 0) := by omega
  have hb1p : (0 : Int) ≤ (t : Int) + 1 := by omega
  have hb1t : ((t : Int) + 1).toNat = t + 1 := by omega
  have hwr : IntKind.i64.wrap ((t : Int) + 1) = (t : Int) + 1 := by rw [IntKind.wrap_i64]; omega
  have hbz : (t : Int) < (n : Int) + 1 := by omega
  have hbzz : (t : Int) < (n : Int) := by omega
  have hwc : IntKind.i64.wrap ((c : Int) + (d : Int)) = (c : Int) + (d : Int) := by rw [IntKind.wrap_i64]; omega
  have HQ : Hid (∀ x, (∀ s, s < 371 → wrF (opsL (Ybaz.f19.body.bind (regAt 26))) 0 s = none → x s = f s) → Q .normal (F x) (w.drew.setCell ⟨e2, t + 1, none⟩ (.int .i64 ((c : Int) + (d : Int))))) := hQ
  clear hQ
  refine region_frm hF (γ := Unit) (fun op9 g => match op9 with
    | 0 => .pointer (some ⟨e0, 0, none⟩)
    | 1 => .pointer (some ⟨e0, 0, none⟩)
    | 2 => .pointer (some ⟨e0, 3, none⟩)
    | 3 => .slice (some ⟨e2, 0, none⟩) (n + 1) (n + 1)
    | 4 => .int .i64 (t : Nat)
    | 5 => .int .i64 ((t : Int) + 1)
    | 6 => .pointer (some ⟨e2, t + 1, none⟩)
    | 7 => .int .i64 (c : Nat)
    | 8 => .pointer (some ⟨e0, 0, none⟩)
    | 9 => .pointer (some ⟨e0, 0, none⟩)
    | 10 => .pointer (some ⟨e0, 3, none⟩)
    | 11 => .slice (some ⟨e2, 0, none⟩) (n + 1) (n + 1)
    | 12 => .int .i64 (t : Nat)
    | 13 => .pointer (some ⟨e2, t, none⟩)
    | 14 => .int .i64 (d : Nat)
    | 15 => .int .i64 ((c : Int) + (d : Int))
    | 16 => .pointer (some ⟨e2, t + 1, none⟩)
    | 17 => undef
    | _ => undef) (fun l _ w' => (l 17 = false → w' = w.drew) ∧ (l 17 = true → w' = w.drew.setCell ⟨e2, t + 1, none⟩ (.int .i64 ((c : Int) + (d : Int))))) () (by kernel_rfl) (by kernel_rfl) ⟨fun _ => rfl, fun h => (by cases h)⟩ ?_ ?_
  · refine ⟨?_, ?_, ?_, ?_, ?_, ?_, ?_, ?_, ?_, ?_, ?_, ?_, ?_, ?_, ?_, ?_, ?_, ?_, trivial⟩
    · intro l g a w' K hp hc hl hG hM hK
      have e7 : a.eval (.tmp 7) = .pointer (some ⟨e1, 0, none⟩) := (hG.oldF hF 7 (by kernel_rfl) (by omega)).trans h7
      have h9l : l 17 = false := hc.not 17 18 hl (by kernel_rfl)
      obtain rfl := hM.1 h9l
      have fin := hK g _ (fun _ _ => rfl) ⟨fun _ => rfl, fun h => absurd h (by rw [upd_other _ _ (by omega), h9l]; decide)⟩
      clear hK hc hp hG hM h9l
      unfold Oper.wp; generalize a.eval = ρ at *; go_simp; exact fin
    · intro l g a w' K hp hc hl hG hM hK
      have e135 : a.eval (.tmp 135) = .pointer (some ⟨e0, 0, none⟩) := hG.of 135 0 (by kernel_rfl) (preAt hc 18 _ hp (by kernel_rfl))
      have h9l : l 17 = false := hc.not 17 18 hl (by kernel_rfl)
      obtain rfl := hM.1 h9l
      have fin := hK g _ (fun _ _ => rfl) ⟨fun _ => rfl, fun h => absurd h (by rw [upd_other _ _ (by omega), h9l]; decide)⟩
      clear hK hc hp hG hM h9l
      unfold Oper.wp; generalize a.eval = ρ at *; go_simp; exact fin
    · intro l g a w' K hp hc hl hG hM hK
      have e136 : a.eval (.tmp 136) = .pointer (some ⟨e0, 0, none⟩) := hG.of 136 1 (by kernel_rfl) (preAt hc 18 _ hp (by kernel_rfl))
      have h9l : l 17 = false := hc.not 17 18 hl (by kernel_rfl)
      obtain rfl := hM.1 h9l
      have fin := hK g _ (fun _ _ => rfl) ⟨fun _ => rfl, fun h => absurd h (by rw [upd_other _ _ (by omega), h9l]; decide)⟩
      clear hK hc hp hG hM h9l
      unfold Oper.wp; generalize a.eval = ρ at *; go_simp; exact fin
    · intro l g a w' K hp hc hl hG hM hK
      have e137 : a.eval (.tmp 137) = .pointer (some ⟨e0, 3, none⟩) := hG.of 137 2 (by kernel_rfl) (preAt hc 18 _ hp (by kernel_rfl))
      have h9l : l 17 = false := hc.not 17 18 hl (by kernel_rfl)
      obtain rfl := hM.1 h9l
      have fin := hK g _ (fun _ _ => rfl) ⟨fun _ => rfl, fun h => absurd h (by rw [upd_other _ _ (by omega), h9l]; decide)⟩
      clear hK hc hp hG hM h9l
      unfold Oper.wp; generalize a.eval = ρ at *; go_simp; exact fin
    · intro l g a w' K hp hc hl hG hM hK
      have e16 : a.eval (.tmp 16) = .int .i64 (t : Nat) := (hG.oldF hF 16 (by kernel_rfl) (by omega)).trans h16
      have h9l : l 17 = false := hc.not 17 18 hl (by kernel_rfl)
      obtain rfl := hM.1 h9l
      have fin := hK g _ (fun _ _ => rfl) ⟨fun _ => rfl, fun h => absurd h (by rw [upd_other _ _ (by omega), h9l]; decide)⟩
      clear hK hc hp hG hM h9l
      unfold Oper.wp; generalize a.eval = ρ at *; go_simp; exact fin
    · intro l g a w' K hp hc hl hG hM hK
      have e139 : a.eval (.tmp 139) = .int .i64 (t : Nat) := hG.of 139 4 (by kernel_rfl) (preAt hc 18 _ hp (by kernel_rfl))
      have ec : ∀ v, a.eval (.const v) = v := fun _ => rfl
      have h9l : l 17 = false := hc.not 17 18 hl (by kernel_rfl)
      obtain rfl := hM.1 h9l
      have fin := hK g _ (fun _ _ => rfl) ⟨fun _ => rfl, fun h => absurd h (by rw [upd_other _ _ (by omega), h9l]; decide)⟩
      clear hK hc hp hG hM h9l
      unfold Oper.wp; generalize a.eval = ρ at *; go_simp; exact fin
    · intro l g a w' K hp hc hl hG hM hK
      have e138 : a.eval (.tmp 138) = .slice (some ⟨e2, 0, none⟩) (n + 1) (n + 1) := hG.of 138 3 (by kernel_rfl) (preAt hc 18 _ hp (by kernel_rfl))
      have e140 : a.eval (.tmp 140) = .int .i64 ((t : Int) + 1) := hG.of 140 5 (by kernel_rfl) (preAt hc 18 _ hp (by kernel_rfl))
      have h9l : l 17 = false := hc.not 17 18 hl (by kernel_rfl)
      obtain rfl := hM.1 h9l
      have fin := hK g _ (fun _ _ => rfl) ⟨fun _ => rfl, fun h => absurd h (by rw [upd_other _ _ (by omega), h9l]; decide)⟩
      clear hK hc hp hG hM h9l
      unfold Oper.wp; generalize a.eval = ρ at *; go_simp; exact fin
    · intro l g a w' K hp hc hl hG hM hK
      have e141 : a.eval (.tmp 141) = .pointer (some ⟨e2, t + 1, none⟩) := hG.of 141 6 (by kernel_rfl) (preAt hc 18 _ hp (by kernel_rfl))
      have h9l : l 17 = false := hc.not 17 18 hl (by kernel_rfl)
      obtain rfl := hM.1 h9l
      have fin := hK g _ (fun _ _ => rfl) ⟨fun _ => rfl, fun h => absurd h (by rw [upd_other _ _ (by omega), h9l]; decide)⟩
      clear hK hc hp hG hM h9l
      unfold Oper.wp; generalize a.eval = ρ at *; go_simp; exact fin
    · intro l g a w' K hp hc hl hG hM hK
      have e7 : a.eval (.tmp 7) = .pointer (some ⟨e1, 0, none⟩) := (hG.oldF hF 7 (by kernel_rfl) (by omega)).trans h7
      have h9l : l 17 = false := hc.not 17 18 hl (by kernel_rfl)
      obtain rfl := hM.1 h9l
      have fin := hK g _ (fun _ _ => rfl) ⟨fun _ => rfl, fun h => absurd h (by rw [upd_other _ _ (by omega), h9l]; decide)⟩
      clear hK hc hp hG hM h9l
      unfold Oper.wp; generalize a.eval = ρ at *; go_simp; exact fin
    · intro l g a w' K hp hc hl hG hM hK
      have e143 : a.eval (.tmp 143) = .pointer (some ⟨e0, 0, none⟩) := hG.of 143 8 (by kernel_rfl) (preAt hc 18 _ hp (by kernel_rfl))
      have h9l : l 17 = false := hc.not 17 18 hl (by kernel_rfl)
      obtain rfl := hM.1 h9l
      have fin := hK g _ (fun _ _ => rfl) ⟨fun _ => rfl, fun h => absurd h (by rw [upd_other _ _ (by omega), h9l]; decide)⟩
      clear hK hc hp hG hM h9l
      unfold Oper.wp; generalize a.eval = ρ at *; go_simp; exact fin
    · intro l g a w' K hp hc hl hG hM hK
      have e144 : a.eval (.tmp 144) = .pointer (some ⟨e0, 0, none⟩) := hG.of 144 9 (by kernel_rfl) (preAt hc 18 _ hp (by kernel_rfl))
      have h9l : l 17 = false := hc.not 17 18 hl (by kernel_rfl)
      obtain rfl := hM.1 h9l
      have fin := hK g _ (fun _ _ => rfl) ⟨fun _ => rfl, fun h => absurd h (by rw [upd_other _ _ (by omega), h9l]; decide)⟩
      clear hK hc hp hG hM h9l
      unfold Oper.wp; generalize a.eval = ρ at *; go_simp; exact fin
    · intro l g a w' K hp hc hl hG hM hK
      have e145 : a.eval (.tmp 145) = .pointer (some ⟨e0, 3, none⟩) := hG.of 145 10 (by kernel_rfl) (preAt hc 18 _ hp (by kernel_rfl))
      have h9l : l 17 = false := hc.not 17 18 hl (by kernel_rfl)
      obtain rfl := hM.1 h9l
      have fin := hK g _ (fun _ _ => rfl) ⟨fun _ => rfl, fun h => absurd h (by rw [upd_other _ _ (by omega), h9l]; decide)⟩
      clear hK hc hp hG hM h9l
      unfold Oper.wp; generalize a.eval = ρ at *; go_simp; exact fin
    · intro l g a w' K hp hc hl hG hM hK
      have e16 : a.eval (.tmp 16) = .int .i64 (t : Nat) := (hG.oldF hF 16 (by kernel_rfl) (by omega)).trans h16
      have h9l : l 17 = false := hc.not 17 18 hl (by kernel_rfl)
      obtain rfl := hM.1 h9l
      have fin := hK g _ (fun _ _ => rfl) ⟨fun _ => rfl, fun h => absurd h (by rw [upd_other _ _ (by omega), h9l]; decide)⟩
      clear hK hc hp hG hM h9l
      unfold Oper.wp; generalize a.eval = ρ at *; go_simp; exact fin
    · intro l g a w' K hp hc hl hG hM hK
      have e146 : a.eval (.tmp 146) = .slice (some ⟨e2, 0, none⟩) (n + 1) (n + 1) := hG.of 146 11 (by kernel_rfl) (preAt hc 18 _ hp (by kernel_rfl))
      have e147 : a.eval (.tmp 147) = .int .i64 (t : Nat) := hG.of 147 12 (by kernel_rfl) (preAt hc 18 _ hp (by kernel_rfl))
      have h9l : l 17 = false := hc.not 17 18 hl (by kernel_rfl)
      obtain rfl := hM.1 h9l
      have fin := hK g _ (fun _ _ => rfl) ⟨fun _ => rfl, fun h => absurd h (by rw [upd_other _ _ (by omega), h9l]; decide)⟩
      clear hK hc hp hG hM h9l
      unfold Oper.wp; generalize a.eval = ρ at *; go_simp; exact fin
    · intro l g a w' K hp hc hl hG hM hK
      have e148 : a.eval (.tmp 148) = .pointer (some ⟨e2, t, none⟩) := hG.of 148 13 (by kernel_rfl) (preAt hc 18 _ hp (by kernel_rfl))
      have h9l : l 17 = false := hc.not 17 18 hl (by kernel_rfl)
      obtain rfl := hM.1 h9l
      have fin := hK g _ (fun _ _ => rfl) ⟨fun _ => rfl, fun h => absurd h (by rw [upd_other _ _ (by omega), h9l]; decide)⟩
      clear hK hc hp hG hM h9l
      unfold Oper.wp; generalize a.eval = ρ at *; go_simp; exact fin
    · intro l g a w' K hp hc hl hG hM hK
      have e142 : a.eval (.tmp 142) = .int .i64 (c : Nat) := hG.of 142 7 (by kernel_rfl) (preAt hc 18 _ hp (by kernel_rfl))
      have e149 : a.eval (.tmp 149) = .int .i64 (d : Nat) := hG.of 149 14 (by kernel_rfl) (preAt hc 18 _ hp (by kernel_rfl))
      have h9l : l 17 = false := hc.not 17 18 hl (by kernel_rfl)
      obtain rfl := hM.1 h9l
      have fin := hK g _ (fun _ _ => rfl) ⟨fun _ => rfl, fun h => absurd h (by rw [upd_other _ _ (by omega), h9l]; decide)⟩
      clear hK hc hp hG hM h9l
      unfold Oper.wp; generalize a.eval = ρ at *; go_simp; exact fin
    · intro l g a w' K hp hc hl hG hM hK
      have e138 : a.eval (.tmp 138) = .slice (some ⟨e2, 0, none⟩) (n + 1) (n + 1) := hG.of 138 3 (by kernel_rfl) (preAt hc 18 _ hp (by kernel_rfl))
      have e140 : a.eval (.tmp 140) = .int .i64 ((t : Int) + 1) := hG.of 140 5 (by kernel_rfl) (preAt hc 18 _ hp (by kernel_rfl))
      have h9l : l 17 = false := hc.not 17 18 hl (by kernel_rfl)
      obtain rfl := hM.1 h9l
      have fin := hK g _ (fun _ _ => rfl) ⟨fun _ => rfl, fun h => absurd h (by rw [upd_other _ _ (by omega), h9l]; decide)⟩
      clear hK hc hp hG hM h9l
      unfold Oper.wp; generalize a.eval = ρ at *; go_simp; exact fin
    · intro l g a w' K hp hc hl hG hM hK
      have e151 : a.eval (.tmp 151) = .pointer (some ⟨e2, t + 1, none⟩) := hG.of 151 16 (by kernel_rfl) (preAt hc 18 _ hp (by kernel_rfl))
      have e150 : a.eval (.tmp 150) = .int .i64 ((c : Int) + (d : Int)) := hG.of 150 15 (by kernel_rfl) (preAt hc 18 _ hp (by kernel_rfl))
      obtain rfl := hM.1 hl
      have fin := hK g (w.drew.setCell ⟨e2, t + 1, none⟩ (.int .i64 ((c : Int) + (d : Int)))) (fun _ _ => rfl) ⟨fun h' => absurd h' (by rw [upd_same]; decide), fun _ => rfl⟩
      clear hK hc hp hG hM
      unfold Oper.wp; generalize a.eval = ρ at *; go_simp; exact fin
  · intro l g x w' hl hv ho hM
    have hpost := hM.2 (hl 17 (show 17 < 18 by omega))
    subst hpost
    exact HQ.out x (fun s hs hw => ho s hs hw)
end Go.Proofs.YbulkexmzaGreat
