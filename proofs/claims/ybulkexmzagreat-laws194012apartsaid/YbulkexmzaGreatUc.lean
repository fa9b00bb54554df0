/-
  newDominance (38): region 64 (bucket and nextInBucket).
-/
import Derived.Test.YbulkexmzaGreatUa
namespace Go.Proofs.YbulkexmzaGreat
open Go.RowKit
set_option maxHeartbeats 4000000 in
set_option maxRecDepth 100000 in
theorem r64 {F : (Nat → Value) → Act} (hF : Fr 577 F) {w0 w : World} {E : Nat → Nat} {B : Nat → Lb} {n m L cL wv : Nat} {pf : Nat → Nat} {pst : List Nat} {D f : Nat → Value} {Q : Exit → Act → World → Prop}
    (hD : De w0 w E B n m L cL pf pst D (wv + 1)) (hwv : wv < m) (h24 : f 24 = .pointer (some ⟨E 14, 0, none⟩)) (h28 : f 28 = .slice (some ⟨E 23, 0, none⟩) m m) (h29 : f 29 = .slice (some ⟨E 24, 0, none⟩) m m) (h33 : f 33 = .int .i64 (wv : Nat))
    (hQ : ∀ x w' B', (∀ s, s < 577 → wrF (opsL (Ybaz.f38.body.bind (regAt 64))) 0 s = none → x s = f s) → De w0 w' E B' n m L cL pf pst D wv → Q .normal (F x) w') :
    ((Ybaz.f38.body.bind (regAt 64)).getD .skip).wp Ybaz.prog Q (F f) w := by
  conv => arg 2; whnf
  have hwz : (wv : Int) < (m : Int) := by omega
  obtain ⟨s', ks, hs0, hs1⟩ := hD.ev.st.intAt (k := 18) (by omega) hD.ev.b18 hwv
  obtain ⟨s, rfl⟩ : ∃ s : Nat, s' = s := ⟨s'.toNat, by have : (0 : Int) ≤ s' := hs0; omega⟩
  have hs : s < m := by have : (s : Int) < (m : Int) := hs1; omega
  have hsz : (s : Int) < (m : Int) := hs1
  obtain ⟨u0, kz, hz⟩ := hD.ev.st.read 23 (by omega) (i := s) (by rw [hD.b23]; exact hs)
  rw [hD.b23] at hz
  obtain ⟨z0, rfl, hz⟩ := hz
  have HZ : Hid (z0 = -1 ∨ (((wv + 1 : Nat) : Int) ≤ z0 ∧ z0 < m)) := hz
  obtain ⟨B2, hB2, hB23, hB24, hE⟩ := hD.weak
  have HB2 : Hid (∀ k, k ≠ 23 → B2 k = B k) := hB2
  have HE : Hid (Ev w0 w E B2 m) := hE
  have HD : Hid (De w0 w E B n m L cL pf pst D (wv + 1)) := hD
  have HQ : Hid (∀ x w' B', (∀ s, s < 577 → wrF (opsL (Ybaz.f38.body.bind (regAt 64))) 0 s = none → x s = f s) → De w0 w' E B' n m L cL pf pst D wv → Q .normal (F x) w') := hQ
  clear hD hQ hs0 hs1 hz hE hB2
  refine region_frm hF (γ := Unit) (fun i g => match i with
    | 0 => .slice (some ⟨E 23, 0, none⟩) m m
    | 1 => .slice (some ⟨E 18, 0, none⟩) m m
    | 2 => .int .i64 (wv : Nat)
    | 3 => .pointer (some ⟨E 18, wv, none⟩)
    | 4 => .int .i64 (s : Nat)
    | 5 => .slice (some ⟨E 24, 0, none⟩) m m
    | 6 => .int .i64 (wv : Nat)
    | 7 => .int .i64 (wv : Nat)
    | 8 => .slice (some ⟨E 23, 0, none⟩) m m
    | 9 => .slice (some ⟨E 18, 0, none⟩) m m
    | 10 => .int .i64 (wv : Nat)
    | 11 => .pointer (some ⟨E 18, wv, none⟩)
    | 12 => .int .i64 (s : Nat)
    | 13 => .pointer (some ⟨E 23, s, none⟩)
    | 14 => .int .i64 z0
    | 15 => .pointer (some ⟨E 23, s, none⟩)
    | 16 => undef
    | 17 => .pointer (some ⟨E 24, wv, none⟩)
    | 18 => undef
    | _ => undef) (fun l _ w' => Ev w0 w' E B2 m ∧ w'.cell? ⟨E 18, wv, none⟩ = some (.int .i64 (s : Nat)) ∧ (l 16 = false → w'.cell? ⟨E 23, s, none⟩ = some (.int .i64 z0)) ∧ (l 18 = true → w'.cell? ⟨E 24, wv, none⟩ = some (.int .i64 z0))) () (by kernel_rfl) (by kernel_rfl) ⟨HE.out.drew, ks, fun _ => kz, fun h => (by cases h)⟩ ?_ ?_
  · refine ⟨?_, ?_, ?_, ?_, ?_, ?_, ?_, ?_, ?_, ?_, ?_, ?_, ?_, ?_, ?_, ?_, ?_, ?_, ?_, trivial⟩
    · intro l g a w' K hp hc hl hG hM hK
      have e28 : a.eval (.tmp 28) = .slice (some ⟨E 23, 0, none⟩) m m := (hG.oldF hF 28 (by kernel_rfl) (by omega)).trans h28
      have hM' : Ev w0 w' E B2 m ∧ w'.cell? ⟨E 18, wv, none⟩ = some (.int .i64 (s : Nat)) ∧ ((upd l 0 true) 16 = false → w'.cell? ⟨E 23, s, none⟩ = some (.int .i64 z0)) ∧ ((upd l 0 true) 18 = true → w'.cell? ⟨E 24, wv, none⟩ = some (.int .i64 z0)) := hM
      clear hc hp hG hM
      unfold Oper.wp; generalize a.eval = ρ at *; go_simp; exact hK g w' (fun _ _ => rfl) hM'
    · intro l g a w' K hp hc hl hG hM hK
      have e24 : a.eval (.tmp 24) = .pointer (some ⟨E 14, 0, none⟩) := (hG.oldF hF 24 (by kernel_rfl) (by omega)).trans h24
      have kb := hM.1.st.box (k := 14) (by omega) hM.1.b14
      have hM' : Ev w0 w' E B2 m ∧ w'.cell? ⟨E 18, wv, none⟩ = some (.int .i64 (s : Nat)) ∧ ((upd l 1 true) 16 = false → w'.cell? ⟨E 23, s, none⟩ = some (.int .i64 z0)) ∧ ((upd l 1 true) 18 = true → w'.cell? ⟨E 24, wv, none⟩ = some (.int .i64 z0)) := hM
      clear hc hp hG hM
      unfold Oper.wp; generalize a.eval = ρ at *; go_simp; exact hK g w' (fun _ _ => rfl) hM'
    · intro l g a w' K hp hc hl hG hM hK
      have e33 : a.eval (.tmp 33) = .int .i64 (wv : Nat) := (hG.oldF hF 33 (by kernel_rfl) (by omega)).trans h33
      have hM' : Ev w0 w' E B2 m ∧ w'.cell? ⟨E 18, wv, none⟩ = some (.int .i64 (s : Nat)) ∧ ((upd l 2 true) 16 = false → w'.cell? ⟨E 23, s, none⟩ = some (.int .i64 z0)) ∧ ((upd l 2 true) 18 = true → w'.cell? ⟨E 24, wv, none⟩ = some (.int .i64 z0)) := hM
      clear hc hp hG hM
      unfold Oper.wp; generalize a.eval = ρ at *; go_simp; exact hK g w' (fun _ _ => rfl) hM'
    · intro l g a w' K hp hc hl hG hM hK
      have e303 : a.eval (.tmp 303) = .slice (some ⟨E 18, 0, none⟩) m m := hG.of 303 1 (by kernel_rfl) (preAt hc 19 _ hp (by kernel_rfl))
      have e304 : a.eval (.tmp 304) = .int .i64 (wv : Nat) := hG.of 304 2 (by kernel_rfl) (preAt hc 19 _ hp (by kernel_rfl))
      have hM' : Ev w0 w' E B2 m ∧ w'.cell? ⟨E 18, wv, none⟩ = some (.int .i64 (s : Nat)) ∧ ((upd l 3 true) 16 = false → w'.cell? ⟨E 23, s, none⟩ = some (.int .i64 z0)) ∧ ((upd l 3 true) 18 = true → w'.cell? ⟨E 24, wv, none⟩ = some (.int .i64 z0)) := hM
      clear hc hp hG hM
      unfold Oper.wp; generalize a.eval = ρ at *; go_simp; exact hK g w' (fun _ _ => rfl) hM'
    · intro l g a w' K hp hc hl hG hM hK
      have e305 : a.eval (.tmp 305) = .pointer (some ⟨E 18, wv, none⟩) := hG.of 305 3 (by kernel_rfl) (preAt hc 19 _ hp (by kernel_rfl))
      have kb := hM.2.1
      have hM' : Ev w0 w' E B2 m ∧ w'.cell? ⟨E 18, wv, none⟩ = some (.int .i64 (s : Nat)) ∧ ((upd l 4 true) 16 = false → w'.cell? ⟨E 23, s, none⟩ = some (.int .i64 z0)) ∧ ((upd l 4 true) 18 = true → w'.cell? ⟨E 24, wv, none⟩ = some (.int .i64 z0)) := hM
      clear hc hp hG hM
      unfold Oper.wp; generalize a.eval = ρ at *; go_simp; exact hK g w' (fun _ _ => rfl) hM'
    · intro l g a w' K hp hc hl hG hM hK
      have e29 : a.eval (.tmp 29) = .slice (some ⟨E 24, 0, none⟩) m m := (hG.oldF hF 29 (by kernel_rfl) (by omega)).trans h29
      have hM' : Ev w0 w' E B2 m ∧ w'.cell? ⟨E 18, wv, none⟩ = some (.int .i64 (s : Nat)) ∧ ((upd l 5 true) 16 = false → w'.cell? ⟨E 23, s, none⟩ = some (.int .i64 z0)) ∧ ((upd l 5 true) 18 = true → w'.cell? ⟨E 24, wv, none⟩ = some (.int .i64 z0)) := hM
      clear hc hp hG hM
      unfold Oper.wp; generalize a.eval = ρ at *; go_simp; exact hK g w' (fun _ _ => rfl) hM'
    · intro l g a w' K hp hc hl hG hM hK
      have e33 : a.eval (.tmp 33) = .int .i64 (wv : Nat) := (hG.oldF hF 33 (by kernel_rfl) (by omega)).trans h33
      have hM' : Ev w0 w' E B2 m ∧ w'.cell? ⟨E 18, wv, none⟩ = some (.int .i64 (s : Nat)) ∧ ((upd l 6 true) 16 = false → w'.cell? ⟨E 23, s, none⟩ = some (.int .i64 z0)) ∧ ((upd l 6 true) 18 = true → w'.cell? ⟨E 24, wv, none⟩ = some (.int .i64 z0)) := hM
      clear hc hp hG hM
      unfold Oper.wp; generalize a.eval = ρ at *; go_simp; exact hK g w' (fun _ _ => rfl) hM'
    · intro l g a w' K hp hc hl hG hM hK
      have e33 : a.eval (.tmp 33) = .int .i64 (wv : Nat) := (hG.oldF hF 33 (by kernel_rfl) (by omega)).trans h33
      have hM' : Ev w0 w' E B2 m ∧ w'.cell? ⟨E 18, wv, none⟩ = some (.int .i64 (s : Nat)) ∧ ((upd l 7 true) 16 = false → w'.cell? ⟨E 23, s, none⟩ = some (.int .i64 z0)) ∧ ((upd l 7 true) 18 = true → w'.cell? ⟨E 24, wv, none⟩ = some (.int .i64 z0)) := hM
      clear hc hp hG hM
      unfold Oper.wp; generalize a.eval = ρ at *; go_simp; exact hK g w' (fun _ _ => rfl) hM'
    · intro l g a w' K hp hc hl hG hM hK
      have e28 : a.eval (.tmp 28) = .slice (some ⟨E 23, 0, none⟩) m m := (hG.oldF hF 28 (by kernel_rfl) (by omega)).trans h28
      have hM' : Ev w0 w' E B2 m ∧ w'.cell? ⟨E 18, wv, none⟩ = some (.int .i64 (s : Nat)) ∧ ((upd l 8 true) 16 = false → w'.cell? ⟨E 23, s, none⟩ = some (.int .i64 z0)) ∧ ((upd l 8 true) 18 = true → w'.cell? ⟨E 24, wv, none⟩ = some (.int .i64 z0)) := hM
      clear hc hp hG hM
      unfold Oper.wp; generalize a.eval = ρ at *; go_simp; exact hK g w' (fun _ _ => rfl) hM'
    · intro l g a w' K hp hc hl hG hM hK
      have e24 : a.eval (.tmp 24) = .pointer (some ⟨E 14, 0, none⟩) := (hG.oldF hF 24 (by kernel_rfl) (by omega)).trans h24
      have kb := hM.1.st.box (k := 14) (by omega) hM.1.b14
      have hM' : Ev w0 w' E B2 m ∧ w'.cell? ⟨E 18, wv, none⟩ = some (.int .i64 (s : Nat)) ∧ ((upd l 9 true) 16 = false → w'.cell? ⟨E 23, s, none⟩ = some (.int .i64 z0)) ∧ ((upd l 9 true) 18 = true → w'.cell? ⟨E 24, wv, none⟩ = some (.int .i64 z0)) := hM
      clear hc hp hG hM
      unfold Oper.wp; generalize a.eval = ρ at *; go_simp; exact hK g w' (fun _ _ => rfl) hM'
    · intro l g a w' K hp hc hl hG hM hK
      have e33 : a.eval (.tmp 33) = .int .i64 (wv : Nat) := (hG.oldF hF 33 (by kernel_rfl) (by omega)).trans h33
      have hM' : Ev w0 w' E B2 m ∧ w'.cell? ⟨E 18, wv, none⟩ = some (.int .i64 (s : Nat)) ∧ ((upd l 10 true) 16 = false → w'.cell? ⟨E 23, s, none⟩ = some (.int .i64 z0)) ∧ ((upd l 10 true) 18 = true → w'.cell? ⟨E 24, wv, none⟩ = some (.int .i64 z0)) := hM
      clear hc hp hG hM
      unfold Oper.wp; generalize a.eval = ρ at *; go_simp; exact hK g w' (fun _ _ => rfl) hM'
    · intro l g a w' K hp hc hl hG hM hK
      have e311 : a.eval (.tmp 311) = .slice (some ⟨E 18, 0, none⟩) m m := hG.of 311 9 (by kernel_rfl) (preAt hc 19 _ hp (by kernel_rfl))
      have e312 : a.eval (.tmp 312) = .int .i64 (wv : Nat) := hG.of 312 10 (by kernel_rfl) (preAt hc 19 _ hp (by kernel_rfl))
      have hM' : Ev w0 w' E B2 m ∧ w'.cell? ⟨E 18, wv, none⟩ = some (.int .i64 (s : Nat)) ∧ ((upd l 11 true) 16 = false → w'.cell? ⟨E 23, s, none⟩ = some (.int .i64 z0)) ∧ ((upd l 11 true) 18 = true → w'.cell? ⟨E 24, wv, none⟩ = some (.int .i64 z0)) := hM
      clear hc hp hG hM
      unfold Oper.wp; generalize a.eval = ρ at *; go_simp; exact hK g w' (fun _ _ => rfl) hM'
    · intro l g a w' K hp hc hl hG hM hK
      have e313 : a.eval (.tmp 313) = .pointer (some ⟨E 18, wv, none⟩) := hG.of 313 11 (by kernel_rfl) (preAt hc 19 _ hp (by kernel_rfl))
      have kb := hM.2.1
      have hM' : Ev w0 w' E B2 m ∧ w'.cell? ⟨E 18, wv, none⟩ = some (.int .i64 (s : Nat)) ∧ ((upd l 12 true) 16 = false → w'.cell? ⟨E 23, s, none⟩ = some (.int .i64 z0)) ∧ ((upd l 12 true) 18 = true → w'.cell? ⟨E 24, wv, none⟩ = some (.int .i64 z0)) := hM
      clear hc hp hG hM
      unfold Oper.wp; generalize a.eval = ρ at *; go_simp; exact hK g w' (fun _ _ => rfl) hM'
    · intro l g a w' K hp hc hl hG hM hK
      have e310 : a.eval (.tmp 310) = .slice (some ⟨E 23, 0, none⟩) m m := hG.of 310 8 (by kernel_rfl) (preAt hc 19 _ hp (by kernel_rfl))
      have e314 : a.eval (.tmp 314) = .int .i64 (s : Nat) := hG.of 314 12 (by kernel_rfl) (preAt hc 19 _ hp (by kernel_rfl))
      have hM' : Ev w0 w' E B2 m ∧ w'.cell? ⟨E 18, wv, none⟩ = some (.int .i64 (s : Nat)) ∧ ((upd l 13 true) 16 = false → w'.cell? ⟨E 23, s, none⟩ = some (.int .i64 z0)) ∧ ((upd l 13 true) 18 = true → w'.cell? ⟨E 24, wv, none⟩ = some (.int .i64 z0)) := hM
      clear hc hp hG hM
      unfold Oper.wp; generalize a.eval = ρ at *; go_simp; exact hK g w' (fun _ _ => rfl) hM'
    · intro l g a w' K hp hc hl hG hM hK
      have e315 : a.eval (.tmp 315) = .pointer (some ⟨E 23, s, none⟩) := hG.of 315 13 (by kernel_rfl) (preAt hc 19 _ hp (by kernel_rfl))
      have kb := hM.2.2.1 (hc.not 16 19 hl (by kernel_rfl))
      have hM' : Ev w0 w' E B2 m ∧ w'.cell? ⟨E 18, wv, none⟩ = some (.int .i64 (s : Nat)) ∧ ((upd l 14 true) 16 = false → w'.cell? ⟨E 23, s, none⟩ = some (.int .i64 z0)) ∧ ((upd l 14 true) 18 = true → w'.cell? ⟨E 24, wv, none⟩ = some (.int .i64 z0)) := hM
      clear hc hp hG hM
      unfold Oper.wp; generalize a.eval = ρ at *; go_simp; exact hK g w' (fun _ _ => rfl) hM'
    · intro l g a w' K hp hc hl hG hM hK
      have e302 : a.eval (.tmp 302) = .slice (some ⟨E 23, 0, none⟩) m m := hG.of 302 0 (by kernel_rfl) (preAt hc 19 _ hp (by kernel_rfl))
      have e306 : a.eval (.tmp 306) = .int .i64 (s : Nat) := hG.of 306 4 (by kernel_rfl) (preAt hc 19 _ hp (by kernel_rfl))
      have hM' : Ev w0 w' E B2 m ∧ w'.cell? ⟨E 18, wv, none⟩ = some (.int .i64 (s : Nat)) ∧ ((upd l 15 true) 16 = false → w'.cell? ⟨E 23, s, none⟩ = some (.int .i64 z0)) ∧ ((upd l 15 true) 18 = true → w'.cell? ⟨E 24, wv, none⟩ = some (.int .i64 z0)) := hM
      clear hc hp hG hM
      unfold Oper.wp; generalize a.eval = ρ at *; go_simp; exact hK g w' (fun _ _ => rfl) hM'
    · intro l g a w' K hp hc hl hG hM hK
      have e317 : a.eval (.tmp 317) = .pointer (some ⟨E 23, s, none⟩) := hG.of 317 15 (by kernel_rfl) (preAt hc 19 _ hp (by kernel_rfl))
      have e309 : a.eval (.tmp 309) = .int .i64 (wv : Nat) := hG.of 309 7 (by kernel_rfl) (preAt hc 19 _ hp (by kernel_rfl))
      obtain ⟨he, h1, h2, h3⟩ := hM
      obtain ⟨y, ky, _⟩ := he.st.read 23 (by omega) (i := s) (by rw [hB23]; exact hs)
      have kf := he.st.frz 23 (by omega) s
      have fin := hK g (w'.setCell ⟨E 23, s, none⟩ (.int .i64 (wv : Nat))) (fun _ _ => rfl) ⟨he.put 23 (by omega) (by rw [hB23]; exact ⟨wv, rfl, .inr ⟨by omega, by omega⟩⟩), (he.st.far 23 18 (by omega) (by omega) (by omega) _ _ _).trans h1, fun hx => (by rw [upd_same] at hx; cases hx), fun hx => (he.st.far 23 24 (by omega) (by omega) (by omega) _ _ _).trans (h3 (by rwa [upd_other _ _ (by omega)] at hx))⟩
      clear hc hp hG hK he h1 h2 h3
      unfold Oper.wp; generalize a.eval = ρ at *; go_simp; exact fin
    · intro l g a w' K hp hc hl hG hM hK
      have e307 : a.eval (.tmp 307) = .slice (some ⟨E 24, 0, none⟩) m m := hG.of 307 5 (by kernel_rfl) (preAt hc 19 _ hp (by kernel_rfl))
      have e308 : a.eval (.tmp 308) = .int .i64 (wv : Nat) := hG.of 308 6 (by kernel_rfl) (preAt hc 19 _ hp (by kernel_rfl))
      have hM' : Ev w0 w' E B2 m ∧ w'.cell? ⟨E 18, wv, none⟩ = some (.int .i64 (s : Nat)) ∧ ((upd l 17 true) 16 = false → w'.cell? ⟨E 23, s, none⟩ = some (.int .i64 z0)) ∧ ((upd l 17 true) 18 = true → w'.cell? ⟨E 24, wv, none⟩ = some (.int .i64 z0)) := hM
      clear hc hp hG hM
      unfold Oper.wp; generalize a.eval = ρ at *; go_simp; exact hK g w' (fun _ _ => rfl) hM'
    · intro l g a w' K hp hc hl hG hM hK
      have e318 : a.eval (.tmp 318) = .pointer (some ⟨E 24, wv, none⟩) := hG.of 318 17 (by kernel_rfl) (preAt hc 19 _ hp (by kernel_rfl))
      have e316 : a.eval (.tmp 316) = .int .i64 z0 := hG.of 316 14 (by kernel_rfl) (preAt hc 19 _ hp (by kernel_rfl))
      obtain ⟨he, h1, h2, h3⟩ := hM
      obtain ⟨y, ky, _⟩ := he.st.read 24 (by omega) (i := wv) (by rw [hB24]; exact hwv)
      have kf := he.st.frz 24 (by omega) wv
      have fin := hK g (w'.setCell ⟨E 24, wv, none⟩ (.int .i64 z0)) (fun _ _ => rfl) ⟨he.put 24 (by omega) (by rw [hB24]; exact ⟨z0, rfl, fun hx => by omega⟩), (he.st.far 24 18 (by omega) (by omega) (by omega) _ _ _).trans h1, fun hx => (he.st.far 24 23 (by omega) (by omega) (by omega) _ _ _).trans (h2 (by rwa [upd_other _ _ (by omega)] at hx)), fun _ => World.cell?_setCell_same _ _ _ ky⟩
      clear hc hp hG hK he h1 h2 h3
      unfold Oper.wp; generalize a.eval = ρ at *; go_simp; exact fin
  · intro l g x w' hl hv ho hM
    obtain ⟨he, _, _, h3⟩ := hM
    have h3 := h3 (hl 18 (show 18 < 19 by omega))
    have hs2 := he.st.know 24 (by omega) h3 (nb wv m) (by rw [hB24]; rfl) (by rw [hB24]; rfl) (fun j u _ hu hj => by
      rw [hB24] at hu
      obtain ⟨z, h1, h2⟩ := hu
      refine ⟨z, h1, fun hle => ?_⟩
      by_cases e : j = wv
      · subst e
        have := hj rfl
        rw [this] at h1
        cases h1
        have := HZ.out
        omega
      · exact h2 (by omega))
    have bb : ∀ k, k ≠ 23 → k ≠ 24 → upd B2 24 (nb wv m) k = B k := fun k h1 h2 => by rw [upd_other _ _ h2]; exact HB2.out k h1
    have b17 : ∃ v len cap, upd B2 24 (nb wv m) 17 = bx 46 v ∧ Sl E (upd B2 24 (nb wv m)) 21 3 1 len cap anyInt v := by
      obtain ⟨v, le, c, h1, h2⟩ := he.b17
      exact ⟨v, le, c, h1, h2.congr rfl rfl⟩
    have sl : ∀ {k j : Nat} {q : Nat → Value → Prop} {le : Nat}, k < 23 → j < 23 → (∃ v c, B k = bx 46 v ∧ Sl E B j 3 1 le c q v) → ∃ v c, upd B2 24 (nb wv m) k = bx 46 v ∧ Sl E (upd B2 24 (nb wv m)) j 3 1 le c q v := fun hk hj ⟨v, c, h1, h2⟩ => ⟨v, c, by rw [bb _ (by omega) (by omega)]; exact h1, h2.congr rfl (bb _ (by omega) (by omega))⟩
    have hd := HD.out
    exact HQ.out x w' _ (fun s hs hw => ho s hs hw) ⟨⟨hs2, he.b14, he.b15, he.b16, b17, he.b18, he.b19, he.b20⟩, (bb 0 (by omega) (by omega)).trans hd.b0, (bb 5 (by omega) (by omega)).trans hd.b5, sl (by omega) (by omega) hd.b1, sl (by omega) (by omega) hd.b2, sl (by omega) (by omega) hd.b3, (bb 10 (by omega) (by omega)).trans hd.b10, (bb 11 (by omega) (by omega)).trans hd.b11, (bb 12 (by omega) (by omega)).trans hd.b12, (bb 22 (by omega) (by omega)).trans hd.b22, by rw [upd_other _ _ (by omega)]; exact hB23, upd_same _ _ _, hd.d5, hd.d6, hd.lc⟩
end Go.Proofs.YbulkexmzaGreat
