/-
  The law: a function's struct (regions 66 to 73); a function is laid (regions 21 to 73).
-/
import Derived.Test.YbulkexmzaGreatQi
namespace Go.Proofs.YbulkexmzaGreat
open Go.RowKit
attribute [local go_sem] fup_at
def fn0 (s : ByteArray) (v : Value) : Array Value := #[.string ⟨#[102]⟩, .string s, .int .i64 0, .string ⟨#[]⟩, .string ⟨#[]⟩, .pointer none, .bool false, .slice none 0 0, .slice none 0 0, .slice none 0 0, .slice none 0 0, v]
set_option maxHeartbeats 4000000 in
set_option maxRecDepth 100000 in
theorem b66 {F : (Nat → Value) → Act} (hF : Fr 559 F) {X : Ain} (hX : Aok X) {w0 w : World} {E : Lab → Nat} {B : Lab → Option Lb} {al : ByteArray} {i : Nat} {ba : Nat → Option Addr} {bc : Nat → Nat} {f : Nat → Value} {Q : Exit → Act → World → Prop} (hi : i < X.N)
    (hB : Bst w0 w E B X al i) (hP : Fpr E B i (X.fd i)) (h9 : B (9, i, 0, 0) = some (vals 25 3 (fdv (X.P i) (X.rs i) (ba i) (X.L i) (bc i))))
    (h10 : f 10 = .pointer (some ⟨E (0, 1, 0, 0), 0, none⟩)) (h12 : f 12 = .pointer (some ⟨E (0, 2, 0, 0), 0, none⟩)) (h13 : f 13 = .slice (some ⟨E (0, 3, 0, 0), 0, none⟩) X.N X.N) (h14 : f 14 = .slice (some ⟨E (0, 4, 0, 0), 0, none⟩) X.N X.N) (h15 : f 15 = .slice (some ⟨E (0, 5, 0, 0), 0, none⟩) X.N X.N) (h16 : f 16 = .slice (some ⟨E (0, 6, 0, 0), 0, none⟩) X.N X.N)
    (h18 : f 18 = .int .i64 (i : Nat)) (h19 : f 19 = .pointer (some ⟨E (9, i, 0, 0), 0, none⟩)) (h21 : f 21 = .slice (some ⟨E (2, i, 0, 0), 0, none⟩) (X.n i) (X.n i)) (h23 : f 23 = .slice (some ⟨E (4, i, 0, 0), 0, none⟩) (X.n i) (X.n i)) (h24 : f 24 = .slice (some ⟨E (3, i, 0, 0), 0, none⟩) (X.n i) (X.n i))
    (hQ : ∀ y w' E' B', (∀ s, s < 240 → s ≠ 31 → y s = f s) → Bst w0 w' E' B' X al (i + 1) → (∀ l : Lab, l ≠ (1, i, 0, 0) → l ≠ (5, i, 0, 0) → l ≠ (6, i, 0, 0) → l ≠ (0, 7, 0, 0) → E' l = E l) → Q .normal (F y) w') :
    (((Ybaz.f3.body.bind (codeAt 66)).getD .skip)).wp Ybaz.prog Q (F f) w := by
  conv => arg 2; whnf
  have hget := hF.get
  have hmk := hF.up
  have HQ : Hid _ := hQ
  have HX : Hid (Aok X) := hX
  have HB : Hid (Bst w0 w E B X al i) := hB
  have HP : Hid (Fpr E B i (X.fd i)) := hP
  have H9 : Hid (B (9, i, 0, 0) = some (vals 25 3 (fdv (X.P i) (X.rs i) (ba i) (X.L i) (bc i)))) := h9
  have hPb := hX.P i
  obtain ⟨p3, hp3⟩ : ∃ p3, p3 = X.P i % 3 := ⟨_, rfl⟩
  have hmodp : (X.P i : Int) % 3 = (p3 : Int) := by omega
  have hp33 : p3 < 3 := by omega
  have HP3 : Hid (p3 = X.P i % 3) := hp3
  have kc : w.cell? ⟨E (9, i, 0, 0), 0, none⟩ = some (.int .u8 (X.P i : Nat)) := hB.sg.val h9 (i := 0) (by omega)
  have ks : w.cell? ⟨E (0, 1, 0, 0), p3, none⟩ = some (.string (pkgn p3)) := by rw [hB.sg.val hB.g1 hp33, pkgs_at hp33]
  clear hQ hX hB hP h9 hp3
  refine wp_seq_hid (fun K HK => ?_)
  go_wp2
  refine HK.out _ _ ?_
  clear HK kc ks
  have hS1 := HB.out.sg.newA (fn0 (pkgn p3) (.slice (some ⟨E (2, i, 0, 0), 0, none⟩) (X.n i) (X.n i))) 59 (1, i, 0, 0) (n := 12) rfl
  obtain ⟨E1, hE1⟩ : ∃ E1, E1 = lup E (1, i, 0, 0) w.heap.size := ⟨_, rfl⟩
  obtain ⟨B1, hB1⟩ : ∃ B1, B1 = lup B (1, i, 0, 0) (some (vals 59 12 (litv (fn0 (pkgn p3) (.slice (some ⟨E (2, i, 0, 0), 0, none⟩) (X.n i) (X.n i)))))) := ⟨_, rfl⟩
  have e1 : w.heap.size = E1 (1, i, 0, 0) := by rw [hE1, lup_same]
  rw [← hE1, ← hB1] at hS1
  rw [e1]
  have HS1 : Hid (Sg w0 (w.alloc (.cells #[.string ⟨#[102]⟩, .string (pkgn p3), .int .i64 0, .string ⟨#[]⟩, .string ⟨#[]⟩, .pointer none, .bool false, .slice none 0 0, .slice none 0 0, .slice none 0 0, .slice none 0 0, .slice (some ⟨E (2, i, 0, 0), 0, none⟩) (X.n i) (X.n i)] 59)) E1 B1) := hS1
  have HE1 : Hid (∀ l : Lab, l ≠ (1, i, 0, 0) → E1 l = E l) := fun l hl => by rw [hE1, lup_other _ _ hl]
  have HB1 : Hid (∀ l : Lab, l ≠ (1, i, 0, 0) → B1 l = B l) := fun l hl => by rw [hB1, lup_other _ _ hl]
  have b1 : B1 (1, i, 0, 0) = some (vals 59 12 (litv (fn0 (pkgn p3) (.slice (some ⟨E (2, i, 0, 0), 0, none⟩) (X.n i) (X.n i))))) := by rw [hB1, lup_same]
  clear hS1 hE1 hB1 e1
  generalize w.alloc (.cells #[.string ⟨#[102]⟩, .string (pkgn p3), .int .i64 0, .string ⟨#[]⟩, .string ⟨#[]⟩, .pointer none, .bool false, .slice none 0 0, .slice none 0 0, .slice none 0 0, .slice none 0 0, .slice (some ⟨E (2, i, 0, 0), 0, none⟩) (X.n i) (X.n i)] 59) = w1 at HS1 ⊢
  have k1 : w1.cell? ⟨E (9, i, 0, 0), 1, none⟩ = some (.bool (X.rs i)) := by
    have := HS1.out.val ((HB1.out (9, i, 0, 0) (by simp)).trans H9.out) (i := 1) (by omega)
    rw [HE1.out _ (by simp)] at this
    exact this
  refine wp_seq_hid (fun K HK => ?_)
  have HNX : Hid (∀ y w' E' B' Df, (∀ s, s < 240 → s ≠ 31 → y s = f s) → y 31 = .pointer (some ⟨E' (1, i, 0, 0), 0, none⟩) → Sg w0 w' E' B' → (∀ l : Lab, l ≠ (1, i, 0, 0) → l ≠ (6, i, 0, 0) → E' l = E l) → (∀ l : Lab, l ≠ (1, i, 0, 0) → l ≠ (6, i, 0, 0) → B' l = B l) →
      B' (1, i, 0, 0) = some (vals 59 12 Df) → Df 1 = .string (pkgn p3) → Df 5 = X.pin.rv E' i → Df 8 = .slice none 0 0 → Df 9 = .slice none 0 0 → Df 10 = .slice none 0 0 → Df 11 = .slice (some ⟨E (2, i, 0, 0), 0, none⟩) (X.n i) (X.n i) → K (F y) w') := by
    intro y w' E' B' Df hy y31 hS' hE' hB' hb f1 f5 f8 f9 f10 f11
    refine HK.out _ _ ?_
    clear HK
    have z : ∀ a, E' (0, a, 0, 0) = E (0, a, 0, 0) := fun a => hE' _ (by simp) (by simp)
    have e2 : E' (2, i, 0, 0) = E (2, i, 0, 0) := hE' _ (by simp) (by simp)
    have e3 : E' (3, i, 0, 0) = E (3, i, 0, 0) := hE' _ (by simp) (by simp)
    have e4 : E' (4, i, 0, 0) = E (4, i, 0, 0) := hE' _ (by simp) (by simp)
    have n0 : ∀ l : Lab, l.1 = 0 ∨ l.2.1 < i → l ≠ (1, i, 0, 0) ∧ l ≠ (6, i, 0, 0) := fun l h => ⟨fun e => by subst e; simp at h, fun e => by subst e; simp at h⟩
    have n1 : ∀ l : Lab, Lfp l → l ≠ (1, i, 0, 0) ∧ l ≠ (6, i, 0, 0) := fun l h => ⟨fun e => h.2.1 (by rw [e]), fun e => h.2.2.2 (by rw [e])⟩
    have hBk : Bst w0 w' E' B' X al i := HB.out.keep hS' (fun l h => hE' l (n0 l h).1 (n0 l h).2) (fun l h => hB' l (n0 l h).1 (n0 l h).2)
    have hPk : Fpr E' B' i (X.fd i) := HP.out.all (fun l h _ => hE' l (n1 l h).1 (n1 l h).2) (fun l h _ => hB' l (n1 l h).1 (n1 l h).2)
    rw [HP3.out] at f1
    refine b69 hF HX.out hi hBk hPk hb f1 f5 f8 f9 f10 (by rw [e2]; exact f11) (by rw [z, hy 12 (by omega) (by omega)]; exact h12) (by rw [z, hy 13 (by omega) (by omega)]; exact h13) (by rw [z, hy 14 (by omega) (by omega)]; exact h14) (by rw [z, hy 15 (by omega) (by omega)]; exact h15) (by rw [z, hy 16 (by omega) (by omega)]; exact h16) ((hy 18 (by omega) (by omega)).trans h18) (by rw [e2, hy 21 (by omega) (by omega)]; exact h21) (by rw [e4, hy 23 (by omega) (by omega)]; exact h23) (by rw [e3, hy 24 (by omega) (by omega)]; exact h24) y31 ?_
    intro y6 w6 E6 B6 hy6 hb6 hE6
    refine HQ.out y6 w6 E6 B6 (fun s h1 h2 => (hy6 s (by omega)).trans (hy s h1 h2)) hb6 (fun l h1 h2 h3 h4 => ?_)
    rw [hE6 l h2 h4]; exact hE' l h1 h3
  have rv0 : X.rs i = false → ∀ E', X.pin.rv E' i = .pointer none := fun h E' => by
    unfold Pin.rv
    rw [if_neg (by show ¬ X.rs i = true; rw [h]; simp)]
  have rv1 : X.rs i = true → ∀ E', X.pin.rv E' i = .pointer (some ⟨E' (6, i, 0, 0), 0, none⟩) := fun h E' => by
    unfold Pin.rv
    exact if_pos h
  have HRV0 : Hid (X.rs i = false → ∀ E', X.pin.rv E' i = .pointer none) := rv0
  have HRV1 : Hid (X.rs i = true → ∀ E', X.pin.rv E' i = .pointer (some ⟨E' (6, i, 0, 0), 0, none⟩)) := rv1
  clear rv0 rv1
  go_wp2
  refine hF.cond (by omega) rfl (fun hh => ?_) (fun hh => ?_)
  · have hS2 := HS1.out.newA #[.int .u8 0, .pointer none, .slice none 0 0, .slice none 0 0, .int .i64 0, .string ⟨#[]⟩, .pointer none, .int .i64 0, .int .i64 0] 55 (6, i, 0, 0) (n := 9) rfl
    have b2 : lup B1 (6, i, 0, 0) (some (vals 55 9 (litv #[.int .u8 0, .pointer none, .slice none 0 0, .slice none 0 0, .int .i64 0, .string ⟨#[]⟩, .pointer none, .int .i64 0, .int .i64 0]))) (1, i, 0, 0) = some (vals 59 12 (litv (fn0 (pkgn p3) (.slice (some ⟨E (2, i, 0, 0), 0, none⟩) (X.n i) (X.n i))))) := by rw [lup_other _ _ (by simp)]; exact b1
    have le : lup E1 (6, i, 0, 0) w1.heap.size (1, i, 0, 0) = E1 (1, i, 0, 0) := lup_other _ _ (by simp)
    have kc := hS2.val b2 (i := 5) (by omega)
    have kf := hS2.frz b2 5
    have hS3 := hS2.setVal b2 5 (.pointer (some ⟨w1.heap.size, 0, none⟩))
    rw [le] at kc kf hS3
    have kc' : (w1.alloc (.cells #[.int .u8 0, .pointer none, .slice none 0 0, .slice none 0 0, .int .i64 0, .string ⟨#[]⟩, .pointer none, .int .i64 0, .int .i64 0] 55)).cell? ⟨E1 (1, i, 0, 0), 5, none⟩ = some (.pointer none) := kc
    have HS3 : Hid _ := hS3
    have hrs : X.rs i = true := hh
    have HRS : Hid (X.rs i = true) := hrs
    clear hS2 hS3 b2 le kc k1 hh hrs
    go_wp2
    refine HNX.out _ _ _ _ _ (fun s h1 h2 => ?_) ?_ HS3.out (fun l h1 h2 => ?_) (fun l h1 h2 => ?_) (lup_same _ _ _) ?_ ?_ ?_ ?_ ?_ ?_
    · simp only [fup_at]; repeat rw [if_neg (by omega)]
    · rw [lup_other _ _ (by simp)]; simp [fup_at]
    · rw [lup_other _ _ h2]; exact HE1.out l h1
    · rw [lup_other _ _ h1, lup_other _ _ h2]; exact HB1.out l h1
    · rw [upd_other _ _ (by omega)]; rfl
    · rw [upd_same, HRV1.out HRS.out, lup_same]
    · rw [upd_other _ _ (by omega)]; rfl
    · rw [upd_other _ _ (by omega)]; rfl
    · rw [upd_other _ _ (by omega)]; rfl
    · rw [upd_other _ _ (by omega)]; rfl
  · have hrs : X.rs i = false := hh
    have HRS : Hid (X.rs i = false) := hrs
    clear hh hrs k1
    go_wp2
    refine HNX.out _ _ E1 B1 _ (fun s h1 h2 => ?_) ?_ HS1.out (fun l h1 _ => HE1.out l h1) (fun l h1 _ => HB1.out l h1) b1 rfl ?_ rfl rfl rfl rfl
    · simp only [fup_at]; repeat rw [if_neg (by omega)]
    · simp [fup_at]
    · rw [HRV0.out HRS.out]; rfl
end Go.Proofs.YbulkexmzaGreat
