/-
  newDominance (38): region 60 (a call of eval inside a statement that draws its order).
-/
import Derived.Test.YbulkexmzaGreatUa
namespace Go.Proofs.YbulkexmzaGreat
open Go.RowKit
set_option maxHeartbeats 4000000 in
set_option maxRecDepth 100000 in
theorem r60 {F : (Nat → Value) → Act} (hF : Fr 577 F) {w0 w : World} {E : Nat → Nat} {B : Nat → Lb} {n m L cL P wv p : Nat} {pf : Nat → Nat} {pst : List Nat} {D f : Nat → Value} {Q : Exit → Act → World → Prop}
    (hD : De w0 w E B n m L cL pf pst D P) (hm : m ≤ 100001) (hwv : wv < m) (hpn : p < n) (h10 : f 10 = .pointer (some ⟨E 0, 0, none⟩)) (h24 : f 24 = .pointer (some ⟨E 14, 0, none⟩)) (h32 : f 32 = .func (.func 59) #[] #[.pointer (some ⟨E 16, 0, none⟩), .pointer (some ⟨E 17, 0, none⟩), .pointer (some ⟨E 14, 0, none⟩), .pointer (some ⟨E 15, 0, none⟩)]) (h33 : f 33 = .int .i64 (wv : Nat)) (h36 : f 36 = .int .i64 (p : Nat))
    (hQ : ∀ x w' E' B', (∀ s, s < 577 → wrF (opsL (Ybaz.f38.body.bind (regAt 60))) 0 s = none → x s = f s) → Kev E E' B B' → De w0 w' E' B' n m L cL pf pst D P → Q .normal (F x) w') :
    ((Ybaz.f38.body.bind (regAt 60)).getD .skip).wp Ybaz.prog Q (F f) w := by
  conv => arg 2; whnf
  have hwz : (wv : Int) < (m : Int) := by omega
  have hpz : (p : Int) < (n : Int) := by omega
  have HD : Hid (De w0 w E B n m L cL pf pst D P) := hD
  have HQ : Hid (∀ x w' E' B', (∀ s, s < 577 → wrF (opsL (Ybaz.f38.body.bind (regAt 60))) 0 s = none → x s = f s) → Kev E E' B B' → De w0 w' E' B' n m L cL pf pst D P → Q .normal (F x) w') := hQ
  clear hD hQ
  refine region_frm hF (γ := (Nat → Nat)) (fun i g => match i with
    | 0 => .slice (some ⟨E 18, 0, none⟩) m m
    | 1 => .int .i64 (wv : Nat)
    | 2 => .slice (some ⟨E 18, 0, none⟩) m m
    | 3 => .int .i64 (wv : Nat)
    | 4 => .pointer (some ⟨E 18, wv, none⟩)
    | 5 => .int .i64 (g 5 : Nat)
    | 6 => .slice (some ⟨E 18, 0, none⟩) m m
    | 7 => .func (.func 59) #[] #[.pointer (some ⟨E 16, 0, none⟩), .pointer (some ⟨E 17, 0, none⟩), .pointer (some ⟨E 14, 0, none⟩), .pointer (some ⟨E 15, 0, none⟩)]
    | 8 => .slice (some ⟨E 5, 0, none⟩) n n
    | 9 => .int .i64 (p : Nat)
    | 10 => .pointer (some ⟨E 5, p, none⟩)
    | 11 => .int .i64 (g 11 : Nat)
    | 12 => .int .i64 (g 12 : Nat)
    | 13 => .pointer (some ⟨E 18, g 12, none⟩)
    | 14 => .int .i64 (g 14 : Nat)
    | 15 => .int .i64 (if g 14 < g 5 then ((g 14 : Nat) : Int) else ((g 5 : Nat) : Int))
    | 16 => .pointer (some ⟨E 18, wv, none⟩)
    | 17 => undef
    | _ => undef) (fun l g w' => (∃ E' B', Kev E E' B B' ∧ De w0 w' E' B' n m L cL pf pst D P) ∧ (l 5 = true → g 5 < m) ∧ (l 11 = true → g 11 < m) ∧ (l 12 = true → g 12 < m) ∧ (l 14 = true → g 14 < m)) (fun _ => 0) (by kernel_rfl) (by kernel_rfl) ⟨⟨E, B, Kev.refl E B, HD.out.drew⟩, fun h => (by cases h), fun h => (by cases h), fun h => (by cases h), fun h => (by cases h)⟩ ?_ ?_
  · refine ⟨?_, ?_, ?_, ?_, ?_, ?_, ?_, ?_, ?_, ?_, ?_, ?_, ?_, ?_, ?_, ?_, ?_, ?_, trivial⟩
    · intro l g a w' K hp hc hl hG hM hK
      have e24 : a.eval (.tmp 24) = .pointer (some ⟨E 14, 0, none⟩) := (hG.oldF hF 24 (by kernel_rfl) (by omega)).trans h24
      obtain ⟨E', B', hk, hd⟩ := hM.1
      have kb := hd.ev.st.box (k := 14) (by omega) hd.ev.b14
      rw [hk.1 14 (by omega), hk.1 18 (by omega)] at kb
      have hM' : (∃ E' B', Kev E E' B B' ∧ De w0 w' E' B' n m L cL pf pst D P) ∧ ((upd l 0 true) 5 = true → g 5 < m) ∧ ((upd l 0 true) 11 = true → g 11 < m) ∧ ((upd l 0 true) 12 = true → g 12 < m) ∧ ((upd l 0 true) 14 = true → g 14 < m) := hM
      clear hk hd
      clear hc hp hG hM
      unfold Oper.wp; generalize a.eval = ρ at *; go_simp; exact hK g w' (fun _ _ => rfl) hM'
    · intro l g a w' K hp hc hl hG hM hK
      have e33 : a.eval (.tmp 33) = .int .i64 (wv : Nat) := (hG.oldF hF 33 (by kernel_rfl) (by omega)).trans h33
      have hM' : (∃ E' B', Kev E E' B B' ∧ De w0 w' E' B' n m L cL pf pst D P) ∧ ((upd l 1 true) 5 = true → g 5 < m) ∧ ((upd l 1 true) 11 = true → g 11 < m) ∧ ((upd l 1 true) 12 = true → g 12 < m) ∧ ((upd l 1 true) 14 = true → g 14 < m) := hM
      clear hc hp hG hM
      unfold Oper.wp; generalize a.eval = ρ at *; go_simp; exact hK g w' (fun _ _ => rfl) hM'
    · intro l g a w' K hp hc hl hG hM hK
      have e24 : a.eval (.tmp 24) = .pointer (some ⟨E 14, 0, none⟩) := (hG.oldF hF 24 (by kernel_rfl) (by omega)).trans h24
      obtain ⟨E', B', hk, hd⟩ := hM.1
      have kb := hd.ev.st.box (k := 14) (by omega) hd.ev.b14
      rw [hk.1 14 (by omega), hk.1 18 (by omega)] at kb
      have hM' : (∃ E' B', Kev E E' B B' ∧ De w0 w' E' B' n m L cL pf pst D P) ∧ ((upd l 2 true) 5 = true → g 5 < m) ∧ ((upd l 2 true) 11 = true → g 11 < m) ∧ ((upd l 2 true) 12 = true → g 12 < m) ∧ ((upd l 2 true) 14 = true → g 14 < m) := hM
      clear hk hd
      clear hc hp hG hM
      unfold Oper.wp; generalize a.eval = ρ at *; go_simp; exact hK g w' (fun _ _ => rfl) hM'
    · intro l g a w' K hp hc hl hG hM hK
      have e33 : a.eval (.tmp 33) = .int .i64 (wv : Nat) := (hG.oldF hF 33 (by kernel_rfl) (by omega)).trans h33
      have hM' : (∃ E' B', Kev E E' B B' ∧ De w0 w' E' B' n m L cL pf pst D P) ∧ ((upd l 3 true) 5 = true → g 5 < m) ∧ ((upd l 3 true) 11 = true → g 11 < m) ∧ ((upd l 3 true) 12 = true → g 12 < m) ∧ ((upd l 3 true) 14 = true → g 14 < m) := hM
      clear hc hp hG hM
      unfold Oper.wp; generalize a.eval = ρ at *; go_simp; exact hK g w' (fun _ _ => rfl) hM'
    · intro l g a w' K hp hc hl hG hM hK
      have e278 : a.eval (.tmp 278) = .slice (some ⟨E 18, 0, none⟩) m m := hG.of 278 2 (by kernel_rfl) (preAt hc 18 _ hp (by kernel_rfl))
      have e279 : a.eval (.tmp 279) = .int .i64 (wv : Nat) := hG.of 279 3 (by kernel_rfl) (preAt hc 18 _ hp (by kernel_rfl))
      have hM' : (∃ E' B', Kev E E' B B' ∧ De w0 w' E' B' n m L cL pf pst D P) ∧ ((upd l 4 true) 5 = true → g 5 < m) ∧ ((upd l 4 true) 11 = true → g 11 < m) ∧ ((upd l 4 true) 12 = true → g 12 < m) ∧ ((upd l 4 true) 14 = true → g 14 < m) := hM
      clear hc hp hG hM
      unfold Oper.wp; generalize a.eval = ρ at *; go_simp; exact hK g w' (fun _ _ => rfl) hM'
    · intro l g a w' K hp hc hl hG hM hK
      have e280 : a.eval (.tmp 280) = .pointer (some ⟨E 18, wv, none⟩) := hG.of 280 4 (by kernel_rfl) (preAt hc 18 _ hp (by kernel_rfl))
      obtain ⟨E', B', hk, hd⟩ := hM.1
      
      obtain ⟨z, kz, hz0, hz1⟩ := hd.ev.st.intAt (k := 18) (by omega) hd.ev.b18 (i := wv) (by omega)
      rw [hk.1 18 (by omega)] at kz
      obtain ⟨y, rfl⟩ : ∃ y : Nat, z = y := ⟨z.toNat, by have : (0 : Int) ≤ z := hz0; omega⟩
      have hy : y < m := by have : (y : Int) < (m : Int) := hz1; omega
      have fin := hK (upd g 5 y) w' (fun i hi => by
              match i, hi with
              | 0, _ => rfl
              | 1, _ => rfl
              | 2, _ => rfl
              | 3, _ => rfl
              | 4, _ => rfl
              | 5, hi => exact absurd hi (by rw [hl]; decide)
              | 6, _ => rfl
              | 7, _ => rfl
              | 8, _ => rfl
              | 9, _ => rfl
              | 10, _ => rfl
              | 11, _ => rfl
              | 12, _ => rfl
              | 13, _ => rfl
              | 14, _ => rfl
              | 15, hi => exact absurd hi (by rw [hc.not 15 18 hl (by kernel_rfl)]; decide)
              | 16, _ => rfl
              | 17, _ => rfl
              | _ + 18, _ => rfl) ⟨⟨E', B', hk, hd⟩, fun _ => by rw [upd_same]; omega, fun hx => by rw [upd_other _ _ (by omega)] at hx; rw [upd_other _ _ (by omega)]; exact hM.2.2.1 hx, fun hx => by rw [upd_other _ _ (by omega)] at hx; rw [upd_other _ _ (by omega)]; exact hM.2.2.2.1 hx, fun hx => by rw [upd_other _ _ (by omega)] at hx; rw [upd_other _ _ (by omega)]; exact hM.2.2.2.2 hx⟩
      clear hc hp hG hM hK hk hd
      unfold Oper.wp; generalize a.eval = ρ at *; go_simp; exact fin
    · intro l g a w' K hp hc hl hG hM hK
      have e24 : a.eval (.tmp 24) = .pointer (some ⟨E 14, 0, none⟩) := (hG.oldF hF 24 (by kernel_rfl) (by omega)).trans h24
      obtain ⟨E', B', hk, hd⟩ := hM.1
      have kb := hd.ev.st.box (k := 14) (by omega) hd.ev.b14
      rw [hk.1 14 (by omega), hk.1 18 (by omega)] at kb
      have hM' : (∃ E' B', Kev E E' B B' ∧ De w0 w' E' B' n m L cL pf pst D P) ∧ ((upd l 6 true) 5 = true → g 5 < m) ∧ ((upd l 6 true) 11 = true → g 11 < m) ∧ ((upd l 6 true) 12 = true → g 12 < m) ∧ ((upd l 6 true) 14 = true → g 14 < m) := hM
      clear hk hd
      clear hc hp hG hM
      unfold Oper.wp; generalize a.eval = ρ at *; go_simp; exact hK g w' (fun _ _ => rfl) hM'
    · intro l g a w' K hp hc hl hG hM hK
      have e32 : a.eval (.tmp 32) = .func (.func 59) #[] #[.pointer (some ⟨E 16, 0, none⟩), .pointer (some ⟨E 17, 0, none⟩), .pointer (some ⟨E 14, 0, none⟩), .pointer (some ⟨E 15, 0, none⟩)] := (hG.oldF hF 32 (by kernel_rfl) (by omega)).trans h32
      have hM' : (∃ E' B', Kev E E' B B' ∧ De w0 w' E' B' n m L cL pf pst D P) ∧ ((upd l 7 true) 5 = true → g 5 < m) ∧ ((upd l 7 true) 11 = true → g 11 < m) ∧ ((upd l 7 true) 12 = true → g 12 < m) ∧ ((upd l 7 true) 14 = true → g 14 < m) := hM
      clear hc hp hG hM
      unfold Oper.wp; generalize a.eval = ρ at *; go_simp; exact hK g w' (fun _ _ => rfl) hM'
    · intro l g a w' K hp hc hl hG hM hK
      have e10 : a.eval (.tmp 10) = .pointer (some ⟨E 0, 0, none⟩) := (hG.oldF hF 10 (by kernel_rfl) (by omega)).trans h10
      obtain ⟨E', B', hk, hd⟩ := hM.1
      have kb := hd.ev.st.box (k := 0) (by omega) hd.b0
      rw [hk.1 0 (by omega), hk.1 5 (by omega)] at kb
      have hM' : (∃ E' B', Kev E E' B B' ∧ De w0 w' E' B' n m L cL pf pst D P) ∧ ((upd l 8 true) 5 = true → g 5 < m) ∧ ((upd l 8 true) 11 = true → g 11 < m) ∧ ((upd l 8 true) 12 = true → g 12 < m) ∧ ((upd l 8 true) 14 = true → g 14 < m) := hM
      clear hk hd
      clear hc hp hG hM
      unfold Oper.wp; generalize a.eval = ρ at *; go_simp; exact hK g w' (fun _ _ => rfl) hM'
    · intro l g a w' K hp hc hl hG hM hK
      have e36 : a.eval (.tmp 36) = .int .i64 (p : Nat) := (hG.oldF hF 36 (by kernel_rfl) (by omega)).trans h36
      have hM' : (∃ E' B', Kev E E' B B' ∧ De w0 w' E' B' n m L cL pf pst D P) ∧ ((upd l 9 true) 5 = true → g 5 < m) ∧ ((upd l 9 true) 11 = true → g 11 < m) ∧ ((upd l 9 true) 12 = true → g 12 < m) ∧ ((upd l 9 true) 14 = true → g 14 < m) := hM
      clear hc hp hG hM
      unfold Oper.wp; generalize a.eval = ρ at *; go_simp; exact hK g w' (fun _ _ => rfl) hM'
    · intro l g a w' K hp hc hl hG hM hK
      have e284 : a.eval (.tmp 284) = .slice (some ⟨E 5, 0, none⟩) n n := hG.of 284 8 (by kernel_rfl) (preAt hc 18 _ hp (by kernel_rfl))
      have e285 : a.eval (.tmp 285) = .int .i64 (p : Nat) := hG.of 285 9 (by kernel_rfl) (preAt hc 18 _ hp (by kernel_rfl))
      have hM' : (∃ E' B', Kev E E' B B' ∧ De w0 w' E' B' n m L cL pf pst D P) ∧ ((upd l 10 true) 5 = true → g 5 < m) ∧ ((upd l 10 true) 11 = true → g 11 < m) ∧ ((upd l 10 true) 12 = true → g 12 < m) ∧ ((upd l 10 true) 14 = true → g 14 < m) := hM
      clear hc hp hG hM
      unfold Oper.wp; generalize a.eval = ρ at *; go_simp; exact hK g w' (fun _ _ => rfl) hM'
    · intro l g a w' K hp hc hl hG hM hK
      have e286 : a.eval (.tmp 286) = .pointer (some ⟨E 5, p, none⟩) := hG.of 286 10 (by kernel_rfl) (preAt hc 18 _ hp (by kernel_rfl))
      obtain ⟨E', B', hk, hd⟩ := hM.1
      
      obtain ⟨z, kz, hz0, hz1⟩ := hd.ev.st.intAt (k := 5) (by omega) hd.b5 (i := p) (by omega)
      rw [hk.1 5 (by omega)] at kz
      obtain ⟨y, rfl⟩ : ∃ y : Nat, z = y := ⟨z.toNat, by have : (0 : Int) ≤ z := hz0; omega⟩
      have hy : y < m := by have : (y : Int) < (m : Int) := hz1; omega
      have fin := hK (upd g 11 y) w' (fun i hi => by
              match i, hi with
              | 0, _ => rfl
              | 1, _ => rfl
              | 2, _ => rfl
              | 3, _ => rfl
              | 4, _ => rfl
              | 5, _ => rfl
              | 6, _ => rfl
              | 7, _ => rfl
              | 8, _ => rfl
              | 9, _ => rfl
              | 10, _ => rfl
              | 11, hi => exact absurd hi (by rw [hl]; decide)
              | 12, _ => rfl
              | 13, _ => rfl
              | 14, _ => rfl
              | 15, _ => rfl
              | 16, _ => rfl
              | 17, _ => rfl
              | _ + 18, _ => rfl) ⟨⟨E', B', hk, hd⟩, fun hx => by rw [upd_other _ _ (by omega)] at hx; rw [upd_other _ _ (by omega)]; exact hM.2.1 hx, fun _ => by rw [upd_same]; omega, fun hx => by rw [upd_other _ _ (by omega)] at hx; rw [upd_other _ _ (by omega)]; exact hM.2.2.2.1 hx, fun hx => by rw [upd_other _ _ (by omega)] at hx; rw [upd_other _ _ (by omega)]; exact hM.2.2.2.2 hx⟩
      clear hc hp hG hM hK hk hd
      unfold Oper.wp; generalize a.eval = ρ at *; go_simp; exact fin
    · intro l g a w' K hp hc hl hG hM hK
      have e283 : a.eval (.tmp 283) = .func (.func 59) #[] #[.pointer (some ⟨E 16, 0, none⟩), .pointer (some ⟨E 17, 0, none⟩), .pointer (some ⟨E 14, 0, none⟩), .pointer (some ⟨E 15, 0, none⟩)] := hG.of 283 7 (by kernel_rfl) (preAt hc 18 _ hp (by kernel_rfl))
      have e287 : a.eval (.tmp 287) = .int .i64 (g 11 : Nat) := hG.of 287 11 (by kernel_rfl) (preAt hc 18 _ hp (by kernel_rfl))
      obtain ⟨E', B', hk, hd⟩ := hM.1
      have h11 : g 11 < m := hM.2.2.1 (preAt hc 18 _ hp (by kernel_rfl))
      have HC := eval_any hd.ev hm h11
      rw [hk.1 16 (by omega), hk.1 17 (by omega), hk.1 14 (by omega), hk.1 15 (by omega)] at HC
      have FIN : Hid (∀ (u : Nat) (E2 : Nat → Nat) (B2 : Nat → Lb) (w'' : World), u < m → Kev E' E2 B' B2 → Ev w0 w'' E2 B2 m → K (a.put (some 288) (.int .i64 (u : Nat))) w'') := fun u E2 B2 w'' hu hk2 he => by
        have := hK (upd g 12 u) w'' (fun i hi => by
                match i, hi with
                | 0, _ => rfl
                | 1, _ => rfl
                | 2, _ => rfl
                | 3, _ => rfl
                | 4, _ => rfl
                | 5, _ => rfl
                | 6, _ => rfl
                | 7, _ => rfl
                | 8, _ => rfl
                | 9, _ => rfl
                | 10, _ => rfl
                | 11, _ => rfl
                | 12, hi => exact absurd hi (by rw [hl]; decide)
                | 13, hi => exact absurd hi (by rw [hc.not 13 18 hl (by kernel_rfl)]; decide)
                | 14, _ => rfl
                | 15, _ => rfl
                | 16, _ => rfl
                | 17, _ => rfl
                | _ + 18, _ => rfl) ⟨⟨E2, B2, hk.trans hk2, hd.kev hk2 he⟩, fun hx => by rw [upd_other _ _ (by omega)] at hx; rw [upd_other _ _ (by omega)]; exact hM.2.1 hx, fun hx => by rw [upd_other _ _ (by omega)] at hx; rw [upd_other _ _ (by omega)]; exact hM.2.2.1 hx, fun _ => by rw [upd_same]; exact hu, fun hx => by rw [upd_other _ _ (by omega)] at hx; rw [upd_other _ _ (by omega)]; exact hM.2.2.2.2 hx⟩
        exact this
      clear hc hp hG hM hK hk hd
      unfold Oper.wp; generalize hρ : a.eval = ρ at *; go_simp
      refine Calls.mono HC ?_
      rintro e w'' ⟨u, E2, B2, rfl, hu, hk2, he⟩
      exact FIN.out u E2 B2 w'' hu hk2 he
    · intro l g a w' K hp hc hl hG hM hK
      have e282 : a.eval (.tmp 282) = .slice (some ⟨E 18, 0, none⟩) m m := hG.of 282 6 (by kernel_rfl) (preAt hc 18 _ hp (by kernel_rfl))
      have e288 : a.eval (.tmp 288) = .int .i64 (g 12 : Nat) := hG.of 288 12 (by kernel_rfl) (preAt hc 18 _ hp (by kernel_rfl))
      have h12 : g 12 < m := hM.2.2.2.1 (preAt hc 18 _ hp (by kernel_rfl))
      have h12z : ((g 12 : Nat) : Int) < (m : Int) := by omega
      have hM' : (∃ E' B', Kev E E' B B' ∧ De w0 w' E' B' n m L cL pf pst D P) ∧ ((upd l 13 true) 5 = true → g 5 < m) ∧ ((upd l 13 true) 11 = true → g 11 < m) ∧ ((upd l 13 true) 12 = true → g 12 < m) ∧ ((upd l 13 true) 14 = true → g 14 < m) := hM
      clear hc hp hG hM
      unfold Oper.wp; generalize a.eval = ρ at *; go_simp; exact hK g w' (fun _ _ => rfl) hM'
    · intro l g a w' K hp hc hl hG hM hK
      have e289 : a.eval (.tmp 289) = .pointer (some ⟨E 18, g 12, none⟩) := hG.of 289 13 (by kernel_rfl) (preAt hc 18 _ hp (by kernel_rfl))
      obtain ⟨E', B', hk, hd⟩ := hM.1
      have h12 : g 12 < m := hM.2.2.2.1 (preAt hc 18 _ hp (by kernel_rfl))
      obtain ⟨z, kz, hz0, hz1⟩ := hd.ev.st.intAt (k := 18) (by omega) hd.ev.b18 (i := g 12) (by omega)
      rw [hk.1 18 (by omega)] at kz
      obtain ⟨y, rfl⟩ : ∃ y : Nat, z = y := ⟨z.toNat, by have : (0 : Int) ≤ z := hz0; omega⟩
      have hy : y < m := by have : (y : Int) < (m : Int) := hz1; omega
      have fin := hK (upd g 14 y) w' (fun i hi => by
              match i, hi with
              | 0, _ => rfl
              | 1, _ => rfl
              | 2, _ => rfl
              | 3, _ => rfl
              | 4, _ => rfl
              | 5, _ => rfl
              | 6, _ => rfl
              | 7, _ => rfl
              | 8, _ => rfl
              | 9, _ => rfl
              | 10, _ => rfl
              | 11, _ => rfl
              | 12, _ => rfl
              | 13, _ => rfl
              | 14, hi => exact absurd hi (by rw [hl]; decide)
              | 15, hi => exact absurd hi (by rw [hc.not 15 18 hl (by kernel_rfl)]; decide)
              | 16, _ => rfl
              | 17, _ => rfl
              | _ + 18, _ => rfl) ⟨⟨E', B', hk, hd⟩, fun hx => by rw [upd_other _ _ (by omega)] at hx; rw [upd_other _ _ (by omega)]; exact hM.2.1 hx, fun hx => by rw [upd_other _ _ (by omega)] at hx; rw [upd_other _ _ (by omega)]; exact hM.2.2.1 hx, fun hx => by rw [upd_other _ _ (by omega)] at hx; rw [upd_other _ _ (by omega)]; exact hM.2.2.2.1 hx, fun _ => by rw [upd_same]; omega⟩
      clear hc hp hG hM hK hk hd
      unfold Oper.wp; generalize a.eval = ρ at *; go_simp; exact fin
    · intro l g a w' K hp hc hl hG hM hK
      have e281 : a.eval (.tmp 281) = .int .i64 (g 5 : Nat) := hG.of 281 5 (by kernel_rfl) (preAt hc 18 _ hp (by kernel_rfl))
      have e290 : a.eval (.tmp 290) = .int .i64 (g 14 : Nat) := hG.of 290 14 (by kernel_rfl) (preAt hc 18 _ hp (by kernel_rfl))
      have hM' : (∃ E' B', Kev E E' B B' ∧ De w0 w' E' B' n m L cL pf pst D P) ∧ ((upd l 15 true) 5 = true → g 5 < m) ∧ ((upd l 15 true) 11 = true → g 11 < m) ∧ ((upd l 15 true) 12 = true → g 12 < m) ∧ ((upd l 15 true) 14 = true → g 14 < m) := hM
      clear hc hp hG hM
      unfold Oper.wp; generalize a.eval = ρ at *; go_simp; exact hK g w' (fun _ _ => rfl) hM'
    · intro l g a w' K hp hc hl hG hM hK
      have e276 : a.eval (.tmp 276) = .slice (some ⟨E 18, 0, none⟩) m m := hG.of 276 0 (by kernel_rfl) (preAt hc 18 _ hp (by kernel_rfl))
      have e277 : a.eval (.tmp 277) = .int .i64 (wv : Nat) := hG.of 277 1 (by kernel_rfl) (preAt hc 18 _ hp (by kernel_rfl))
      have hM' : (∃ E' B', Kev E E' B B' ∧ De w0 w' E' B' n m L cL pf pst D P) ∧ ((upd l 16 true) 5 = true → g 5 < m) ∧ ((upd l 16 true) 11 = true → g 11 < m) ∧ ((upd l 16 true) 12 = true → g 12 < m) ∧ ((upd l 16 true) 14 = true → g 14 < m) := hM
      clear hc hp hG hM
      unfold Oper.wp; generalize a.eval = ρ at *; go_simp; exact hK g w' (fun _ _ => rfl) hM'
    · intro l g a w' K hp hc hl hG hM hK
      have e292 : a.eval (.tmp 292) = .pointer (some ⟨E 18, wv, none⟩) := hG.of 292 16 (by kernel_rfl) (preAt hc 18 _ hp (by kernel_rfl))
      have e291 : a.eval (.tmp 291) = .int .i64 (if g 14 < g 5 then ((g 14 : Nat) : Int) else ((g 5 : Nat) : Int)) := hG.of 291 15 (by kernel_rfl) (preAt hc 18 _ hp (by kernel_rfl))
      obtain ⟨E', B', hk, hd⟩ := hM.1
      have h5 : g 5 < m := hM.2.1 (preAt hc 18 _ hp (by kernel_rfl))
      obtain ⟨y, ky, _⟩ := hd.ev.st.read 18 (by omega) (i := wv) (by rw [hd.ev.b18]; exact hwv)
      have kf := hd.ev.st.frz 18 (by omega) wv
      have hd2 := hd.put 18 (by omega) (i := wv) (v := .int .i64 (if g 14 < g 5 then ((g 14 : Nat) : Int) else ((g 5 : Nat) : Int))) (by rw [hd.ev.b18]; exact ⟨_, rfl, by show (0 : Int) ≤ _; split <;> omega, by show _ < (m : Int); split <;> omega⟩)
      rw [hk.1 18 (by omega)] at ky kf hd2
      have fin := hK g (w'.setCell ⟨E 18, wv, none⟩ (.int .i64 (if g 14 < g 5 then ((g 14 : Nat) : Int) else ((g 5 : Nat) : Int)))) (fun _ _ => rfl) ⟨⟨E', B', hk, hd2⟩, hM.2⟩
      clear hc hp hG hM hK hk hd hd2
      unfold Oper.wp; generalize a.eval = ρ at *; go_simp; exact fin
  · intro l g x w' hl hv ho hM
    obtain ⟨⟨E', B', hk, hd⟩, _⟩ := hM
    exact HQ.out x w' E' B' (fun s hs hw => ho s hs hw) hk hd
end Go.Proofs.YbulkexmzaGreat
