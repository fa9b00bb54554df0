import Derived.Test.YbulkexmzaGreatTr
namespace Go.Proofs.YbulkexmzaGreat
open Go.RowKit

section
variable {w0 w : World} {E : Nat → Nat} {B : Nat → Lb} {n lp lq lt : Nat} {fc nx : Nat → Int} {D : Nat → Value} {tv : Value}
theorem Tr.c2 (h : Tr w0 w E B n fc nx lp lq lt D tv) : w.cell? ⟨E 0, 2, none⟩ = some (.slice (some ⟨E 5, 0, none⟩) (n + 1) (n + 1)) := by rw [← h.d2]; exact h.st.valAt (k := 0) (by omega) h.b0 (by omega)
theorem Tr.c3 (h : Tr w0 w E B n fc nx lp lq lt D tv) : w.cell? ⟨E 0, 3, none⟩ = some (.slice (some ⟨E 3, 0, none⟩) (n + 1) (n + 1)) := by rw [← h.d3]; exact h.st.valAt (k := 0) (by omega) h.b0 (by omega)
theorem Tr.c4 (h : Tr w0 w E B n fc nx lp lq lt D tv) : w.cell? ⟨E 0, 4, none⟩ = some (.slice (some ⟨E 4, 0, none⟩) (n + 1) (n + 1)) := by rw [← h.d4]; exact h.st.valAt (k := 0) (by omega) h.b0 (by omega)
theorem Tr.c7 (h : Tr w0 w E B n fc nx lp lq lt D tv) : w.cell? ⟨E 0, 7, none⟩ = some (D 7) := h.st.valAt (k := 0) (by omega) h.b0 (by omega)
theorem Tr.c8 (h : Tr w0 w E B n fc nx lp lq lt D tv) : w.cell? ⟨E 0, 8, none⟩ = some (D 8) := h.st.valAt (k := 0) (by omega) h.b0 (by omega)
end
def opsL : Option Code → List Oper
  | some (.region _ ops _) => ops.toList
  | _ => []
set_option maxHeartbeats 4000000 in
set_option maxRecDepth 100000 in
theorem r102 {F : (Nat → Value) → Act} (hF : Fr 577 F) {w0 w : World} {E : Nat → Nat} {B : Nat → Lb} {n lp lq lt : Nat} {fc nx : Nat → Int} {D : Nat → Value} {tv : Value} {f : Nat → Value} {b c : Nat} {pa : Option Addr} {pc : Nat} {Q : Exit → Act → World → Prop}
    (hT : Tr w0 w E B n fc nx lp lq lt D tv) (h7 : D 7 = .slice pa lp pc) (hb : b < n + 1) (hcn : c < n + 1) (hlp : lp ≤ 100000000000) (h9 : f 9 = .pointer (some ⟨E 0, 0, none⟩)) (h48 : f 48 = .int .i64 (b : Nat)) (h49 : f 49 = .int .i64 (c : Nat))
    (hQ : ∀ x w', (∀ s, s < 577 → wrF (opsL (Ybaz.f38.body.bind (regAt 102))) 0 s = none → x s = f s) → Tr w0 w' E B n fc nx lp lq lt D tv → Q .normal (F x) w') :
    ((Ybaz.f38.body.bind (regAt 102)).getD .skip).wp Ybaz.prog Q (F f) w := by
  conv => arg 2; whnf
  obtain ⟨uz, kz, hz⟩ := hT.st.read 5 (by omega) (i := b) (by rw [hT.b5]; exact hb)
  rw [hT.b5] at hz
  obtain ⟨z, rfl⟩ := hz
  have hbz : (b : Int) < (n : Int) + 1 := by omega
  have hcz : (c : Int) < (n : Int) + 1 := by omega
  have HT : Hid (Tr w0 w E B n fc nx lp lq lt D tv) := hT
  clear hT
  refine region_frm hF (γ := Unit) (fun i g => match i with
    | 0 => .pointer (some ⟨E 0, 0, none⟩)
    | 1 => .pointer (some ⟨E 0, 0, none⟩)
    | 2 => .pointer (some ⟨E 0, 3, none⟩)
    | 3 => .slice (some ⟨E 3, 0, none⟩) (n + 1) (n + 1)
    | 4 => .int .i64 (c : Nat)
    | 5 => .pointer (some ⟨E 0, 0, none⟩)
    | 6 => .pointer (some ⟨E 0, 0, none⟩)
    | 7 => .pointer (some ⟨E 0, 2, none⟩)
    | 8 => .slice (some ⟨E 5, 0, none⟩) (n + 1) (n + 1)
    | 9 => .int .i64 (c : Nat)
    | 10 => .pointer (some ⟨E 0, 0, none⟩)
    | 11 => .pointer (some ⟨E 0, 0, none⟩)
    | 12 => .pointer (some ⟨E 0, 7, none⟩)
    | 13 => .slice pa lp pc
    | 14 => .int .i64 (lp : Nat)
    | 15 => .pointer (some ⟨E 0, 0, none⟩)
    | 16 => .pointer (some ⟨E 0, 0, none⟩)
    | 17 => .pointer (some ⟨E 0, 2, none⟩)
    | 18 => .slice (some ⟨E 5, 0, none⟩) (n + 1) (n + 1)
    | 19 => .int .i64 (b : Nat)
    | 20 => .pointer (some ⟨E 5, b, none⟩)
    | 21 => .int .i64 z
    | 22 => .int .i64 (IntKind.i64.wrap (z + 1))
    | 23 => .pointer (some ⟨E 3, c, none⟩)
    | 24 => undef
    | 25 => .pointer (some ⟨E 5, c, none⟩)
    | 26 => undef
    | _ => undef) (fun l _ w' => Tr w0 w' E B n fc nx lp lq lt D tv ∧ (l 26 = false → w'.cell? ⟨E 5, b, none⟩ = some (.int .i64 z))) () (by kernel_rfl) (by kernel_rfl) ⟨HT.out.drew, fun _ => kz⟩ ?_ ?_
  · refine ⟨?_, ?_, ?_, ?_, ?_, ?_, ?_, ?_, ?_, ?_, ?_, ?_, ?_, ?_, ?_, ?_, ?_, ?_, ?_, ?_, ?_, ?_, ?_, ?_, ?_, ?_, ?_, trivial⟩
    · intro l g a w' K hp hc hl hG hM hK
      have e9 : a.eval (.tmp 9) = .pointer (some ⟨E 0, 0, none⟩) := (hG.oldF hF 9 (by kernel_rfl) (by omega)).trans h9
      clear hc hp hG
      unfold Oper.wp; generalize a.eval = ρ at *; go_simp; exact hK g w' (fun _ _ => rfl) hM
    · intro l g a w' K hp hc hl hG hM hK
      have e510 : a.eval (.tmp 510) = .pointer (some ⟨E 0, 0, none⟩) := hG.of 510 0 (by kernel_rfl) (preAt hc 27 _ hp (by kernel_rfl))
      clear hc hp hG
      unfold Oper.wp; generalize a.eval = ρ at *; go_simp; exact hK g w' (fun _ _ => rfl) hM
    · intro l g a w' K hp hc hl hG hM hK
      have e511 : a.eval (.tmp 511) = .pointer (some ⟨E 0, 0, none⟩) := hG.of 511 1 (by kernel_rfl) (preAt hc 27 _ hp (by kernel_rfl))
      clear hc hp hG
      unfold Oper.wp; generalize a.eval = ρ at *; go_simp; exact hK g w' (fun _ _ => rfl) hM
    · intro l g a w' K hp hc hl hG hM hK
      have e512 : a.eval (.tmp 512) = .pointer (some ⟨E 0, 3, none⟩) := hG.of 512 2 (by kernel_rfl) (preAt hc 27 _ hp (by kernel_rfl))
      have kk := hM.1.c3
      clear hc hp hG
      unfold Oper.wp; generalize a.eval = ρ at *; go_simp; exact hK g w' (fun _ _ => rfl) hM
    · intro l g a w' K hp hc hl hG hM hK
      have e49 : a.eval (.tmp 49) = .int .i64 (c : Nat) := (hG.oldF hF 49 (by kernel_rfl) (by omega)).trans h49
      clear hc hp hG
      unfold Oper.wp; generalize a.eval = ρ at *; go_simp; exact hK g w' (fun _ _ => rfl) hM
    · intro l g a w' K hp hc hl hG hM hK
      have e9 : a.eval (.tmp 9) = .pointer (some ⟨E 0, 0, none⟩) := (hG.oldF hF 9 (by kernel_rfl) (by omega)).trans h9
      clear hc hp hG
      unfold Oper.wp; generalize a.eval = ρ at *; go_simp; exact hK g w' (fun _ _ => rfl) hM
    · intro l g a w' K hp hc hl hG hM hK
      have e515 : a.eval (.tmp 515) = .pointer (some ⟨E 0, 0, none⟩) := hG.of 515 5 (by kernel_rfl) (preAt hc 27 _ hp (by kernel_rfl))
      clear hc hp hG
      unfold Oper.wp; generalize a.eval = ρ at *; go_simp; exact hK g w' (fun _ _ => rfl) hM
    · intro l g a w' K hp hc hl hG hM hK
      have e516 : a.eval (.tmp 516) = .pointer (some ⟨E 0, 0, none⟩) := hG.of 516 6 (by kernel_rfl) (preAt hc 27 _ hp (by kernel_rfl))
      clear hc hp hG
      unfold Oper.wp; generalize a.eval = ρ at *; go_simp; exact hK g w' (fun _ _ => rfl) hM
    · intro l g a w' K hp hc hl hG hM hK
      have e517 : a.eval (.tmp 517) = .pointer (some ⟨E 0, 2, none⟩) := hG.of 517 7 (by kernel_rfl) (preAt hc 27 _ hp (by kernel_rfl))
      have kk := hM.1.c2
      clear hc hp hG
      unfold Oper.wp; generalize a.eval = ρ at *; go_simp; exact hK g w' (fun _ _ => rfl) hM
    · intro l g a w' K hp hc hl hG hM hK
      have e49 : a.eval (.tmp 49) = .int .i64 (c : Nat) := (hG.oldF hF 49 (by kernel_rfl) (by omega)).trans h49
      clear hc hp hG
      unfold Oper.wp; generalize a.eval = ρ at *; go_simp; exact hK g w' (fun _ _ => rfl) hM
    · intro l g a w' K hp hc hl hG hM hK
      have e9 : a.eval (.tmp 9) = .pointer (some ⟨E 0, 0, none⟩) := (hG.oldF hF 9 (by kernel_rfl) (by omega)).trans h9
      clear hc hp hG
      unfold Oper.wp; generalize a.eval = ρ at *; go_simp; exact hK g w' (fun _ _ => rfl) hM
    · intro l g a w' K hp hc hl hG hM hK
      have e520 : a.eval (.tmp 520) = .pointer (some ⟨E 0, 0, none⟩) := hG.of 520 10 (by kernel_rfl) (preAt hc 27 _ hp (by kernel_rfl))
      clear hc hp hG
      unfold Oper.wp; generalize a.eval = ρ at *; go_simp; exact hK g w' (fun _ _ => rfl) hM
    · intro l g a w' K hp hc hl hG hM hK
      have e521 : a.eval (.tmp 521) = .pointer (some ⟨E 0, 0, none⟩) := hG.of 521 11 (by kernel_rfl) (preAt hc 27 _ hp (by kernel_rfl))
      clear hc hp hG
      unfold Oper.wp; generalize a.eval = ρ at *; go_simp; exact hK g w' (fun _ _ => rfl) hM
    · intro l g a w' K hp hc hl hG hM hK
      have e522 : a.eval (.tmp 522) = .pointer (some ⟨E 0, 7, none⟩) := hG.of 522 12 (by kernel_rfl) (preAt hc 27 _ hp (by kernel_rfl))
      have kk := hM.1.c7
      rw [h7] at kk
      clear hc hp hG
      unfold Oper.wp; generalize a.eval = ρ at *; go_simp; exact hK g w' (fun _ _ => rfl) hM
    · intro l g a w' K hp hc hl hG hM hK
      have e523 : a.eval (.tmp 523) = .slice pa lp pc := hG.of 523 13 (by kernel_rfl) (preAt hc 27 _ hp (by kernel_rfl))
      clear hc hp hG
      unfold Oper.wp; generalize a.eval = ρ at *; go_simp; exact hK g w' (fun _ _ => rfl) hM
    · intro l g a w' K hp hc hl hG hM hK
      have e9 : a.eval (.tmp 9) = .pointer (some ⟨E 0, 0, none⟩) := (hG.oldF hF 9 (by kernel_rfl) (by omega)).trans h9
      clear hc hp hG
      unfold Oper.wp; generalize a.eval = ρ at *; go_simp; exact hK g w' (fun _ _ => rfl) hM
    · intro l g a w' K hp hc hl hG hM hK
      have e525 : a.eval (.tmp 525) = .pointer (some ⟨E 0, 0, none⟩) := hG.of 525 15 (by kernel_rfl) (preAt hc 27 _ hp (by kernel_rfl))
      clear hc hp hG
      unfold Oper.wp; generalize a.eval = ρ at *; go_simp; exact hK g w' (fun _ _ => rfl) hM
    · intro l g a w' K hp hc hl hG hM hK
      have e526 : a.eval (.tmp 526) = .pointer (some ⟨E 0, 0, none⟩) := hG.of 526 16 (by kernel_rfl) (preAt hc 27 _ hp (by kernel_rfl))
      clear hc hp hG
      unfold Oper.wp; generalize a.eval = ρ at *; go_simp; exact hK g w' (fun _ _ => rfl) hM
    · intro l g a w' K hp hc hl hG hM hK
      have e527 : a.eval (.tmp 527) = .pointer (some ⟨E 0, 2, none⟩) := hG.of 527 17 (by kernel_rfl) (preAt hc 27 _ hp (by kernel_rfl))
      have kk := hM.1.c2
      clear hc hp hG
      unfold Oper.wp; generalize a.eval = ρ at *; go_simp; exact hK g w' (fun _ _ => rfl) hM
    · intro l g a w' K hp hc hl hG hM hK
      have e48 : a.eval (.tmp 48) = .int .i64 (b : Nat) := (hG.oldF hF 48 (by kernel_rfl) (by omega)).trans h48
      clear hc hp hG
      unfold Oper.wp; generalize a.eval = ρ at *; go_simp; exact hK g w' (fun _ _ => rfl) hM
    · intro l g a w' K hp hc hl hG hM hK
      have e528 : a.eval (.tmp 528) = .slice (some ⟨E 5, 0, none⟩) (n + 1) (n + 1) := hG.of 528 18 (by kernel_rfl) (preAt hc 27 _ hp (by kernel_rfl))
      have e529 : a.eval (.tmp 529) = .int .i64 (b : Nat) := hG.of 529 19 (by kernel_rfl) (preAt hc 27 _ hp (by kernel_rfl))
      clear hc hp hG
      unfold Oper.wp; generalize a.eval = ρ at *; go_simp; exact hK g w' (fun _ _ => rfl) hM
    · intro l g a w' K hp hc hl hG hM hK
      have e530 : a.eval (.tmp 530) = .pointer (some ⟨E 5, b, none⟩) := hG.of 530 20 (by kernel_rfl) (preAt hc 27 _ hp (by kernel_rfl))
      have kk := hM.2 (hc.not 26 30 hl (by kernel_rfl))
      clear hc hp hG
      unfold Oper.wp; generalize a.eval = ρ at *; go_simp; exact hK g w' (fun _ _ => rfl) hM
    · intro l g a w' K hp hc hl hG hM hK
      have e531 : a.eval (.tmp 531) = .int .i64 z := hG.of 531 21 (by kernel_rfl) (preAt hc 27 _ hp (by kernel_rfl))
      have ec : ∀ v, a.eval (.const v) = v := fun _ => rfl
      clear hc hp hG
      unfold Oper.wp; generalize a.eval = ρ at *; go_simp; exact hK g w' (fun _ _ => rfl) hM
    · intro l g a w' K hp hc hl hG hM hK
      have e513 : a.eval (.tmp 513) = .slice (some ⟨E 3, 0, none⟩) (n + 1) (n + 1) := hG.of 513 3 (by kernel_rfl) (preAt hc 27 _ hp (by kernel_rfl))
      have e514 : a.eval (.tmp 514) = .int .i64 (c : Nat) := hG.of 514 4 (by kernel_rfl) (preAt hc 27 _ hp (by kernel_rfl))
      clear hc hp hG
      unfold Oper.wp; generalize a.eval = ρ at *; go_simp; exact hK g w' (fun _ _ => rfl) hM
    · intro l g a w' K hp hc hl hG hM hK
      have e533 : a.eval (.tmp 533) = .pointer (some ⟨E 3, c, none⟩) := hG.of 533 23 (by kernel_rfl) (preAt hc 27 _ hp (by kernel_rfl))
      have e524 : a.eval (.tmp 524) = .int .i64 (lp : Nat) := hG.of 524 14 (by kernel_rfl) (preAt hc 27 _ hp (by kernel_rfl))
      have kf := hM.1.st.frz 3 (by omega) c
      have hM' : Tr w0 (w'.setCell ⟨E 3, c, none⟩ (.int .i64 (lp : Nat))) E B n fc nx lp lq lt D tv := hM.1.put 3 (by omega) (by rw [hM.1.b3]; exact ⟨lp, rfl, by show (0 : Int) ≤ _; omega, by show _ < (1000000000000 : Int); omega⟩)
      have hM5 : l 26 = false → (w'.setCell ⟨E 3, c, none⟩ (.int .i64 (lp : Nat))).cell? ⟨E 5, b, none⟩ = some (.int .i64 z) := fun hh => (hM.1.st.far 3 5 (by omega) (by omega) (by omega) _ _ _).trans (hM.2 hh)
      obtain ⟨u, ku, _⟩ := hM.1.st.read 3 (by omega) (i := c) (by rw [hM.1.b3]; exact hcn)
      clear hc hp hG
      unfold Oper.wp; generalize a.eval = ρ at *; go_simp
      refine hK g _ (fun _ _ => rfl) ⟨hM', fun hh => hM5 (by rwa [upd_other _ _ (by omega)] at hh)⟩
    · intro l g a w' K hp hc hl hG hM hK
      have e518 : a.eval (.tmp 518) = .slice (some ⟨E 5, 0, none⟩) (n + 1) (n + 1) := hG.of 518 8 (by kernel_rfl) (preAt hc 27 _ hp (by kernel_rfl))
      have e519 : a.eval (.tmp 519) = .int .i64 (c : Nat) := hG.of 519 9 (by kernel_rfl) (preAt hc 27 _ hp (by kernel_rfl))
      clear hc hp hG
      unfold Oper.wp; generalize a.eval = ρ at *; go_simp; exact hK g w' (fun _ _ => rfl) hM
    · intro l g a w' K hp hc hl hG hM hK
      have e534 : a.eval (.tmp 534) = .pointer (some ⟨E 5, c, none⟩) := hG.of 534 25 (by kernel_rfl) (preAt hc 27 _ hp (by kernel_rfl))
      have e532 : a.eval (.tmp 532) = .int .i64 (IntKind.i64.wrap (z + 1)) := hG.of 532 22 (by kernel_rfl) (preAt hc 27 _ hp (by kernel_rfl))
      have kf := hM.1.st.frz 5 (by omega) c
      have hM' : Tr w0 (w'.setCell ⟨E 5, c, none⟩ (.int .i64 (IntKind.i64.wrap (z + 1)))) E B n fc nx lp lq lt D tv := hM.1.put 5 (by omega) (by rw [hM.1.b5]; exact ⟨_, rfl⟩)
      obtain ⟨u, ku, _⟩ := hM.1.st.read 5 (by omega) (i := c) (by rw [hM.1.b5]; exact hcn)
      clear hc hp hG
      unfold Oper.wp; generalize a.eval = ρ at *; go_simp
      refine hK g _ (fun _ _ => rfl) ⟨hM', fun hh => by rw [upd_same] at hh; cases hh⟩
  · intro l g x w' hl hv ho hM
    exact hQ x w' (fun s hs hw => ho s hs hw) hM.1
end Go.Proofs.YbulkexmzaGreat
