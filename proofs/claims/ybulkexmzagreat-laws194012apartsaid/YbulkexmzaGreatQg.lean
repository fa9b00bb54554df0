/-
  The law: all blocks of a function are laid (regions 33 to 65, 35).
-/
import Derived.Test.YbulkexmzaGreatQf
namespace Go.Proofs.YbulkexmzaGreat
open Go.RowKit
attribute [local go_sem] fup_at
/-- Labels that are new within a function's blocks. -/
def T33 (i : Nat) (l : Lab) : Prop := l.2.1 = i ∧ (l.1 = 11 ∨ l.1 = 12 ∨ l.1 = 13 ∨ l.1 = 14 ∨ l.1 = 20 ∨ l.1 = 21)
theorem T36.sub {i j : Nat} {l : Lab} (h : T36 i j l) : T33 i l ∧ l.2.2.1 = j := by
  rcases h with h | h
  · rcases h with h | h
    · rcases h with h | h | h | h
      · subst h; exact ⟨⟨rfl, by simp⟩, rfl⟩
      · subst h; exact ⟨⟨rfl, by simp⟩, rfl⟩
      · subst h; exact ⟨⟨rfl, by simp⟩, rfl⟩
      · exact ⟨⟨h.2.1, by simp [h.1]⟩, h.2.2⟩
    · subst h; exact ⟨⟨rfl, by simp⟩, rfl⟩
  · subst h; exact ⟨⟨rfl, by simp⟩, rfl⟩
section
variable {E E' : Lab → Nat} {B B' : Lab → Option Lb} {i j : Nat} {d : Fd} {D D' : Nat → Value}
theorem Slg.qi_step {k : Lab} {len cap : Nat} {v : Value} (h : Slg E B k 50 len cap (qi E i (cat d.ki j j)) v) (hl : len = d.ki j) (he : ∀ t, E' (20, i, j, t) = E (20, i, j, t)) (hk : E' k = E k) (hb : B' k = B k) : Slg E' B' k 50 len cap (qi E' i (cat d.ki j j)) v := by
  refine (h.congr hk hb).qcongr (fun t u ht => ?_)
  rw [← qi_iff (ki := d.ki) (by omega), ← qi_iff (ki := d.ki) (by omega), he]
theorem Bdj.step (h : Bdj E B i d j) (he : ∀ a b, (a = 10 ∨ a = 11 ∨ a = 12 ∨ a = 20) → E' (a, i, j, b) = E (a, i, j, b)) (he10 : ∀ t, E' (10, i, t, 0) = E (10, i, t, 0)) (hb : ∀ a b, (a = 10 ∨ a = 11 ∨ a = 12 ∨ a = 20) → B' (a, i, j, b) = B (a, i, j, b)) : Bdj E' B' i d j := by
  obtain ⟨D, sv, cap, h1, h2, h3, h4, h5, h6, h7, h8⟩ := h.blk.mem
  refine ⟨⟨D, sv, cap, by rw [hb 10 0 (by simp)]; exact h1, h2, h3, h4, h5, ?_, h7, ?_⟩, fun t ht => ?_, fun t ht => ?_⟩
  · rw [h6]; unfold suv; rw [he 12 0 (by simp)]
  · exact h8.qi_step (cat_one_len _ _) (fun t => he 20 t (by simp)) (he 11 0 (by simp)) (hb 11 0 (by simp))
  · rw [hb 12 0 (by simp), he10]; exact h.su t ht
  · rw [hb 20 t (by simp)]; exact h.xi t ht
theorem Snb.step (h : Snb E B i d D j) (he : ∀ a b, (a = 13 ∨ a = 14 ∨ a = 20) → E' (a, i, j, b) = E (a, i, j, b)) (he10 : ∀ t, E' (10, i, t, 0) = E (10, i, t, 0)) (hb : ∀ a, (a = 13 ∨ a = 14) → B' (a, i, j, 0) = B (a, i, j, 0)) (hD : ∀ s, j * 6 ≤ s → s < j * 6 + 6 → D' s = D s) : Snb E' B' i d D' j := by
  refine ⟨?_, by rw [hD _ (by omega) (by omega)]; exact h.kd, ?_, by rw [hD _ (by omega) (by omega)]; exact h.ps, by rw [hD _ (by omega) (by omega)]; exact h.id0, by rw [hD _ (by omega) (by omega)]; exact h.co3⟩
  · obtain ⟨cap, h1⟩ := h.iv
    rw [hD _ (by omega) (by omega)]
    exact ⟨cap, h1.qi_step rfl (fun t => he 20 t (by simp)) (he 13 0 (by simp)) (hb 13 (by simp))⟩
  · obtain ⟨cap, l, h1, h2⟩ := h.uv
    rw [hD _ (by omega) (by omega)]
    simp only [he10]
    exact ⟨cap, l, h1.congr (he 14 0 (by simp)) (hb 14 (by simp)), h2⟩
end
/-- The blocks of function i, the first x of them laid. -/
structure Bls (w0 w : World) (E0 : Lab → Nat) (B0 : Lab → Option Lb) (E : Lab → Nat) (B : Lab → Option Lb) (i : Nat) (d : Fd) (x : Nat) (D : Nat → Value) (T : Nat → Int) : Prop where
  sg : Sg w0 w E B
  he : ∀ l : Lab, ¬ T33 i l → E l = E0 l
  hb : ∀ l : Lab, ¬ T33 i l → ¬ (l.2.1 = i ∧ l.1 = 10) → l ≠ (3, i, 0, 0) → l ≠ (4, i, 0, 0) → B l = B0 l
  dn : ∀ j, j < x → Bdj E B i d j ∧ Snb E B i d D j
  to : ∀ j, x ≤ j → j < d.n → B (10, i, j, 0) = some (vals 45 6 (blk0 j))
  b4 : B (4, i, 0, 0) = some (arr d.n T)
  t4 : ∀ j, j < x → T j = tgi d j
  b3 : B (3, i, 0, 0) = some (vals 45 (d.n * 6) D)
set_option maxHeartbeats 4000000 in
set_option maxRecDepth 100000 in
theorem b33 {F : (Nat → Value) → Act} (hF : Fr 559 F) {X : Ain} (hX : Aok X) {w0 w : World} {ra : Option Addr} {rb ro : Nat} {ba : Nat → Option Addr} {bc bb bo : Nat → Nat} (hA : Arg w0 X ra rb ro ba bc bb bo) {E : Lab → Nat} {B : Lab → Option Lb} {i c : Nat} {D : Nat → Value} {T : Nat → Int} {f : Nat → Value} {Q : Exit → Act → World → Prop} (hi : i < X.N) (hc : c ≤ 900000000)
    (hB : Bls w0 w E B E B i (X.fd i) 0 D T) (hb2 : B (2, i, 0, 0) = some (bsr E i (X.n i))) (h9 : B (9, i, 0, 0) = some (vals 25 3 (fdv (X.P i) (X.rs i) (ba i) (X.L i) (bc i))))
    (h17 : f 17 = .int .i64 (c : Nat)) (h19 : f 19 = .pointer (some ⟨E (9, i, 0, 0), 0, none⟩)) (h20 : f 20 = .int .i64 (X.n i : Nat)) (h21 : f 21 = .slice (some ⟨E (2, i, 0, 0), 0, none⟩) (X.n i) (X.n i)) (h23 : f 23 = .slice (some ⟨E (4, i, 0, 0), 0, none⟩) (X.n i) (X.n i)) (h24 : f 24 = .slice (some ⟨E (3, i, 0, 0), 0, none⟩) (X.n i) (X.n i))
    (hQ : ∀ y w' E' B' D' T' c', (∀ s, s < 119 → s ≠ 17 → s ≠ 25 → s ≠ 26 → s ≠ 27 → s ≠ 28 → s ≠ 29 → s ≠ 30 → y s = f s) → y 17 = .int .i64 (c' : Nat) → c' ≤ c + 3 * X.n i → Bls w0 w' E B E' B' i (X.fd i) (X.n i) D' T' → Q .normal (F y) w') :
    (hd1 ((Ybaz.f3.body.bind (codeAt 33)).getD .skip)).wp Ybaz.prog Q (F f) w := by
  conv => arg 2; whnf
  have hget := hF.get
  have hmk := hF.up
  have HQ : Hid _ := hQ
  have HX : Hid (Aok X) := hX
  have HA : Hid (Arg w0 X ra rb ro ba bc bb bo) := hA
  have HB : Hid (Bls w0 w E B E B i (X.fd i) 0 D T) := hB
  have H2 : Hid (B (2, i, 0, 0) = some (bsr E i (X.n i))) := hb2
  have H9 : Hid (B (9, i, 0, 0) = some (vals 25 3 (fdv (X.P i) (X.rs i) (ba i) (X.L i) (bc i)))) := h9
  have hnm := hX.n_le hi
  clear hQ hX hA hB hb2 h9
  refine wp_seq_hid (fun K HK => ?_)
  go_wp2
  refine HK.out _ _ ?_
  clear HK
  refine wp_block ?_
  refine wp_loop_ghost_k (fun g a w => ∃ y, a = F y ∧ ∃ x E' B' D' T' c', g + x = X.n i ∧ (∀ s, s < 119 → s ≠ 17 → s ≠ 25 → s ≠ 26 → s ≠ 27 → s ≠ 28 → s ≠ 29 → s ≠ 30 → y s = f s) ∧ y 17 = .int .i64 (c' : Nat) ∧ c' ≤ c + 3 * x ∧ y 25 = .int .i64 (x : Nat) ∧ Bls w0 w E B E' B' i (X.fd i) x D' T') (X.n i)
    ⟨_, rfl, 0, E, B, D, T, c, rfl, fun s hs _ _ _ _ _ _ _ => by
      simp only [fup_at]
      repeat rw [if_neg (by omega)], by simp [fup_at, h17], by omega, by simp [fup_at], HB.out⟩ ?_
  clear HB h17
  rintro g _ w1 ⟨y, rfl, x, E', B', D', T', c', hg, hy, y17, hc', y25, hB⟩ J K3 hJk hK3
  have HJk : Hid (∀ g a w, (∃ y, a = F y ∧ ∃ x E' B' D' T' c', g + x = X.n i ∧ (∀ s, s < 119 → s ≠ 17 → s ≠ 25 → s ≠ 26 → s ≠ 27 → s ≠ 28 → s ≠ 29 → s ≠ 30 → y s = f s) ∧ y 17 = .int .i64 (c' : Nat) ∧ c' ≤ c + 3 * x ∧ y 25 = .int .i64 (x : Nat) ∧ Bls w0 w E B E' B' i (X.fd i) x D' T') → J g a w) := hJk
  have HK3 : Hid (∀ a' w', Handed J g a' w' → K3 a' w') := hK3
  have HB : Hid (Bls w0 w1 E B E' B' i (X.fd i) x D' T') := hB
  have HY : Hid (∀ s, s < 119 → s ≠ 17 → s ≠ 25 → s ≠ 26 → s ≠ 27 → s ≠ 28 → s ≠ 29 → s ≠ 30 → y s = f s) := hy
  have y20 := (hy 20 (by omega) (by omega) (by omega) (by omega) (by omega) (by omega) (by omega) (by omega)).trans h20
  clear hJk hK3 hB hy
  refine wp_seq_hid (fun K4 HK4 => ?_)
  go_wp2
  refine hF.cond (by omega) rfl (fun hh => ?_) (fun hh => ?_)
  · have hx : x < X.n i := by simpa using hh
    clear hh
    go_wp2
    refine HK4.out _ _ ?_
    clear HK4
    have e9 : E' (9, i, 0, 0) = E (9, i, 0, 0) := HB.out.he _ (by unfold T33; simp)
    have e2 : E' (2, i, 0, 0) = E (2, i, 0, 0) := HB.out.he _ (by unfold T33; simp)
    have e3 : E' (3, i, 0, 0) = E (3, i, 0, 0) := HB.out.he _ (by unfold T33; simp)
    have e4 : E' (4, i, 0, 0) = E (4, i, 0, 0) := HB.out.he _ (by unfold T33; simp)
    have e10 : ∀ t, E' (10, i, t, 0) = E (10, i, t, 0) := fun t => HB.out.he _ (by unfold T33; simp)
    have hbs : bsr E' i (X.n i) = bsr E i (X.n i) := by unfold bsr; congr 1; funext t; rw [e10]
    have hyy : ∀ s, s < 119 → s ≠ 17 → s ≠ 25 → s ≠ 26 → s ≠ 27 → s ≠ 28 → s ≠ 29 → s ≠ 30 → (fup (fup (fup y 119 (.int .i64 (x : Nat))) 120 (.int .i64 (X.n i : Nat))) 121 (.bool true)) s = f s := fun s h1 h2 h3 h4 h5 h6 h7 h8 => by
      simp only [fup_at]
      repeat rw [if_neg (by omega)]
      exact HY.out s h1 h2 h3 h4 h5 h6 h7 h8
    refine wp_seq_hid (fun K4 HK4 => ?_)
    refine b36 hF HX.out HA.out (i := i) (j := x) (c := c') (T := T') (D := D') hi hx (by omega) HB.out.sg ?_ (HB.out.to x (Nat.le_refl _) hx) HB.out.b4 HB.out.b3 ?_ ?_ ?_ ?_ ?_ ?_ ?_ ?_ ?_
    · rw [HB.out.hb _ (by unfold T33; simp) (by simp) (by simp) (by simp), hbs]; exact H2.out
    · rw [HB.out.hb _ (by unfold T33; simp) (by simp) (by simp) (by simp)]; exact H9.out
    · simp [fup_at, y17]
    · rw [e9]; exact (hyy 19 (by omega) (by omega) (by omega) (by omega) (by omega) (by omega) (by omega) (by omega)).trans h19
    · exact (hyy 20 (by omega) (by omega) (by omega) (by omega) (by omega) (by omega) (by omega) (by omega)).trans h20
    · rw [e2]; exact (hyy 21 (by omega) (by omega) (by omega) (by omega) (by omega) (by omega) (by omega) (by omega)).trans h21
    · rw [e4]; exact (hyy 23 (by omega) (by omega) (by omega) (by omega) (by omega) (by omega) (by omega) (by omega)).trans h23
    · rw [e3]; exact (hyy 24 (by omega) (by omega) (by omega) (by omega) (by omega) (by omega) (by omega) (by omega)).trans h24
    · simp [fup_at, y25]
    · intro y6 w6 E6 B6 D6 hy6 y617 hS6 hE6 hB6 hbd hb4 hb3 hD6 hsn
      refine HK4.out _ _ ?_
      clear HK4
      have z25 : y6 25 = .int .i64 (x : Nat) := (hy6 25 (by omega) (by omega) (by omega) (by omega) (by omega) (by omega) (by omega)).trans (by simp [fup_at, y25])
      have HY6 : Hid (∀ s, s < 122 → s ≠ 17 → s ≠ 26 → s ≠ 27 → s ≠ 28 → s ≠ 29 → s ≠ 30 → y6 s = _) := hy6
      have hki : (X.fd i).ki x ≤ 3 := (HX.out.fdk hi).ki x
      have ne1 : ∀ a b j, j ≠ x → ¬ T36 i x (a, i, j, b) := fun a b j hj h => hj h.sub.2
      have ne2 : ∀ a b c, (a = 10 ∨ a = 9 ∨ a = 2 ∨ a = 3 ∨ a = 4) → ¬ T36 i x (a, i, b, c) := fun a b c ha h => by
        have := h.sub.1.2
        simp at this
        omega
      have HBL : Hid (Bls w0 w6 E B E6 B6 i (X.fd i) (x + 1) D6 (upd T' x (tgi (X.fd i) x))) := by
        refine ⟨hS6, fun l hl => ?_, fun l hl h1 h2 h3 => ?_, fun j hj => ?_, fun j hj hjn => ?_, hb4, fun j hj => ?_, hb3⟩
        · rw [hE6 l (fun h => hl h.sub.1)]; exact HB.out.he l hl
        · rw [hB6 l (fun h => hl h.sub.1) (fun h => h1 (by subst h; exact ⟨rfl, rfl⟩)) h2 h3]; exact HB.out.hb l hl h1 h2 h3
        · by_cases e : j = x
          · subst e; exact ⟨hbd, hsn⟩
          · obtain ⟨o1, o2⟩ := HB.out.dn j (by omega)
            have nb : ∀ a b, ((a, i, j, b) : Lab) ≠ (10, i, x, 0) := fun a b h => e (lab4 h).2.2.1
            refine ⟨o1.step (fun a b _ => hE6 _ (ne1 a b j e)) (fun t => hE6 _ (ne2 10 t 0 (by simp))) (fun a b ha => hB6 _ (ne1 a b j e) (nb a b) (fun h => by have := (lab4 h).1; omega) (fun h => by have := (lab4 h).1; omega)), o2.step (fun a b _ => hE6 _ (ne1 a b j e)) (fun t => hE6 _ (ne2 10 t 0 (by simp))) (fun a ha => hB6 _ (ne1 a 0 j e) (nb a 0) (fun h => by have := (lab4 h).1; omega) (fun h => by have := (lab4 h).1; omega)) (fun s h1 h2 => hD6 s (by omega))⟩
        · rw [hB6 _ (ne2 10 j 0 (by simp)) (fun h => by have := (lab4 h).2.2.1; omega) (by simp) (by simp)]
          exact HB.out.to j (by omega) hjn
        · by_cases e : j = x
          · subst e; exact upd_same _ _ _
          · rw [upd_other _ _ e]; exact HB.out.t4 j (by omega)
      clear hS6 hE6 hB6 hbd hb4 hb3 hD6 hsn hy6 ne1 ne2
      go_wp2
      refine HK3.out _ _ ⟨g - 1, by omega, HJk.out _ _ _ ⟨_, rfl, x + 1, E6, B6, D6, _, c' + (X.fd i).ki x, by omega, fun s h1 h2 h3 h4 h5 h6 h7 h8 => ?_, ?_, by omega, by simp [fup_at], HBL.out⟩⟩
      · simp only [fup_at]
        repeat rw [if_neg (by omega)]
        rw [HY6.out s (by omega) h2 h4 h5 h6 h7 h8]
        simp only [fup_at]
        repeat rw [if_neg (by omega)]
        exact HY.out s h1 h2 h3 h4 h5 h6 h7 h8
      · simp only [fup_at]
        repeat rw [if_neg (by omega)]
        exact y617
  · have hx : x = X.n i := by
      have : ¬ x < X.n i := by simpa using hh
      omega
    subst hx
    clear hh HK3 HJk HK4
    go_wp2
    refine HQ.out _ _ E' B' D' T' c' (fun s h1 h2 h3 h4 h5 h6 h7 h8 => ?_) ?_ hc' HB.out
    · simp only [fup_at]
      repeat rw [if_neg (by omega)]
      exact HY.out s h1 h2 h3 h4 h5 h6 h7 h8
    · simp only [fup_at]
      repeat rw [if_neg (by omega)]
      exact y17
end Go.Proofs.YbulkexmzaGreat
