/-
  The law: all functions are laid (regions 19 to 74).
-/
import Derived.Test.YbulkexmzaGreatQk
namespace Go.Proofs.YbulkexmzaGreat
open Go.RowKit
attribute [local go_sem] fup_at
set_option maxHeartbeats 4000000 in
set_option maxRecDepth 100000 in
theorem b19 {F : (Nat → Value) → Act} (hF : Fr 559 F) {X : Ain} (hX : Aok X) {w0 w : World} {ra : Option Addr} {rb ro rc : Nat} {ba : Nat → Option Addr} {bc bb bo : Nat → Nat} (hA : Arg w0 X ra rb ro ba bc bb bo) {E : Lab → Nat} {B : Lab → Option Lb} {al : ByteArray} {f : Nat → Value} {Q : Exit → Act → World → Prop}
    (hB : Bst w0 w E B X al 0)
    (h0 : f 0 = .slice ra X.N rc) (h10 : f 10 = .pointer (some ⟨E (0, 1, 0, 0), 0, none⟩)) (h12 : f 12 = .pointer (some ⟨E (0, 2, 0, 0), 0, none⟩)) (h13 : f 13 = .slice (some ⟨E (0, 3, 0, 0), 0, none⟩) X.N X.N) (h14 : f 14 = .slice (some ⟨E (0, 4, 0, 0), 0, none⟩) X.N X.N) (h15 : f 15 = .slice (some ⟨E (0, 5, 0, 0), 0, none⟩) X.N X.N) (h16 : f 16 = .slice (some ⟨E (0, 6, 0, 0), 0, none⟩) X.N X.N)
    (h17 : f 17 = .int .i64 0)
    (hQ : ∀ y w' E' B', (∀ s, s < 17 → y s = f s) → Bst w0 w' E' B' X al X.N → (∀ l : Lab, l.1 = 0 → l ≠ (0, 7, 0, 0) → E' l = E l) → Q .normal (F y) w') :
    (hd1 ((Ybaz.f3.body.bind (codeAt 19)).getD .skip)).wp Ybaz.prog Q (F f) w := by
  conv => arg 2; whnf
  have hget := hF.get
  have hmk := hF.up
  have HQ : Hid _ := hQ
  have HX : Hid (Aok X) := hX
  have HA : Hid (Arg w0 X ra rb ro ba bc bb bo) := hA
  have HB : Hid (Bst w0 w E B X al 0) := hB
  have hNm := hX.N
  clear hQ hX hA hB
  refine wp_seq_hid (fun K HK => ?_)
  go_wp2
  refine HK.out _ _ ?_
  clear HK
  refine wp_block ?_
  refine wp_loop_ghost_k (fun g a w => ∃ y, a = F y ∧ ∃ i E' B' c, g + i = X.N ∧ (∀ s, s < 17 → y s = f s) ∧ y 17 = .int .i64 (c : Nat) ∧ c ≤ 100000 * i ∧ y 89 = .slice ra X.N rc ∧ y 90 = .int .i64 (X.N : Nat) ∧ y 91 = .int .i64 (i : Nat) ∧ Bst w0 w E' B' X al i ∧ (∀ l : Lab, l.1 = 0 → l ≠ (0, 7, 0, 0) → E' l = E l)) X.N
    ⟨_, rfl, 0, E, B, 0, rfl, fun s hs => by
      simp only [fup_at]
      repeat rw [if_neg (by omega)], by simp [fup_at, h17], by omega, by simp [fup_at], by simp [fup_at], by simp [fup_at], HB.out, fun _ _ _ => rfl⟩ ?_
  clear HB h17
  rintro g _ w1 ⟨y, rfl, i, E', B', c, hg, hy, y17, hc, y89, y90, y91, hB, hE⟩ J K3 hJk hK3
  have HJk : Hid (∀ g a w, (∃ y, a = F y ∧ ∃ i E' B' c, g + i = X.N ∧ (∀ s, s < 17 → y s = f s) ∧ y 17 = .int .i64 (c : Nat) ∧ c ≤ 100000 * i ∧ y 89 = .slice ra X.N rc ∧ y 90 = .int .i64 (X.N : Nat) ∧ y 91 = .int .i64 (i : Nat) ∧ Bst w0 w E' B' X al i ∧ (∀ l : Lab, l.1 = 0 → l ≠ (0, 7, 0, 0) → E' l = E l)) → J g a w) := hJk
  have HK3 : Hid (∀ a' w', Handed J g a' w' → K3 a' w') := hK3
  have HB : Hid (Bst w0 w1 E' B' X al i) := hB
  have HE : Hid (∀ l : Lab, l.1 = 0 → l ≠ (0, 7, 0, 0) → E' l = E l) := hE
  have HY : Hid (∀ s, s < 17 → y s = f s) := hy
  clear hJk hK3 hB hE hy
  refine wp_seq_hid (fun K4 HK4 => ?_)
  go_wp2
  refine HK4.out _ _ ?_
  clear HK4
  refine wp_seq_hid (fun K4 HK4 => ?_)
  refine hF.cond (by omega) rfl (fun hh => ?_) (fun hh => ?_)
  · have hi : i < X.N := by simpa using hh
    clear hh
    go_wp2
    refine HK4.out _ _ ?_
    clear HK4
    have hnm := HX.out.n_le hi
    have z : ∀ a, a ≠ 7 → E' (0, a, 0, 0) = E (0, a, 0, 0) := fun a ha => HE.out _ rfl (fun e => ha (lab4 e).2.1)
    refine wp_seq_hid (fun K4 HK4 => ?_)
    refine b21 hF HX.out HA.out (i := i) (c := c) (rc := rc) hi (by omega) HB.out ?_ ?_ ?_ ?_ ?_ ?_ (by simp [fup_at, y17]) (by simp [fup_at, y89]) (by simp [fup_at, y91]) ?_
    · rw [z 1 (by omega)]; simp only [fup_at]; repeat rw [if_neg (by omega)]
      exact (HY.out 10 (by omega)).trans h10
    · rw [z 2 (by omega)]; simp only [fup_at]; repeat rw [if_neg (by omega)]
      exact (HY.out 12 (by omega)).trans h12
    · rw [z 3 (by omega)]; simp only [fup_at]; repeat rw [if_neg (by omega)]
      exact (HY.out 13 (by omega)).trans h13
    · rw [z 4 (by omega)]; simp only [fup_at]; repeat rw [if_neg (by omega)]
      exact (HY.out 14 (by omega)).trans h14
    · rw [z 5 (by omega)]; simp only [fup_at]; repeat rw [if_neg (by omega)]
      exact (HY.out 15 (by omega)).trans h15
    · rw [z 6 (by omega)]; simp only [fup_at]; repeat rw [if_neg (by omega)]
      exact (HY.out 16 (by omega)).trans h16
    · intro y6 w6 E6 B6 c6 hy6 y617 hc6 hB6 hE6
      refine HK4.out _ _ ?_
      clear HK4
      have z89 : y6 89 = .slice ra X.N rc := (hy6 89 (by omega) (by omega)).trans (by simp [fup_at, y89])
      have z90 : y6 90 = .int .i64 (X.N : Nat) := (hy6 90 (by omega) (by omega)).trans (by simp [fup_at, y90])
      have z91 : y6 91 = .int .i64 (i : Nat) := (hy6 91 (by omega) (by omega)).trans (by simp [fup_at, y91])
      have HY6 : Hid (∀ s, s < 17 → y6 s = f s) := fun s hs => by
        rw [hy6 s (by omega) (by omega)]
        simp only [fup_at]; repeat rw [if_neg (by omega)]
        exact HY.out s hs
      have HB6 : Hid (Bst w0 w6 E6 B6 X al (i + 1)) := hB6
      have HE6 : Hid (∀ l : Lab, l.1 = 0 → l ≠ (0, 7, 0, 0) → E6 l = E l) := fun l h1 h2 => (hE6 l h1 h2).trans (HE.out l h1 h2)
      clear hy6 hB6 hE6
      go_wp2
      refine HK3.out _ _ ⟨g - 1, by omega, HJk.out _ _ _ ⟨_, rfl, i + 1, E6, B6, c6, by omega, fun s hs => ?_, by simp [fup_at, y617], by omega, by simp [fup_at, z89], by simp [fup_at, z90], by simp [fup_at], HB6.out, HE6.out⟩⟩
      simp only [fup_at]; repeat rw [if_neg (by omega)]
      exact HY6.out s hs
  · have hi : i = X.N := by
      have : ¬ i < X.N := by simpa using hh
      omega
    subst hi
    clear hh HK3 HJk HK4
    go_wp2
    refine HQ.out _ _ E' B' (fun s hs => ?_) HB.out HE.out
    simp only [fup_at]; repeat rw [if_neg (by omega)]
    exact HY.out s hs
end Go.Proofs.YbulkexmzaGreat
