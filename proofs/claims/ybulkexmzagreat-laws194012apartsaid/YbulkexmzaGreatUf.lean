/-
  newDominance (38): region 43.
-/
import Derived.Test.YbulkexmzaGreatUe
namespace Go.Proofs.YbulkexmzaGreat
open Go.RowKit
/-- What a done operation waited for is done. -/
theorem preAt2 {t : List Oper} {l : Nat → Bool} (hc : Closed t l) {j : Nat} (n i : Nat) (hi : l i = true) (h : (match t[i]? with
    | some o => preB t n o j
    | none => false) = true) : l j = true := by
  cases ho : t[i]? with
  | none => rw [ho] at h; cases h
  | some o =>
    rw [ho] at h
    exact preAt hc n o (hc _ _ ho hi) h
set_option maxHeartbeats 4000000 in
set_option maxRecDepth 100000 in
theorem r43 {F : (Nat → Value) → Act} (hF : Fr 577 F) {w0 w : World} {K : Nat} {E : Nat → Nat} {B : Nat → Lb} {m : Nat} {f : Nat → Value} {Q : Exit → Act → World → Prop}
    (hS : St w0 w K E B) (hm : m ≤ 100001) (h23 : f 23 = .int .i64 (m : Nat))
    (hQ : ∀ x w' g1 g3 g5 g6 g7, (∀ s, s < 577 → wrF (opsL (Ybaz.f38.body.bind (regAt 43))) 0 s = none → x s = f s) → St w0 w' (K + 1 + 1 + 1 + 1 + 1) (upd (upd (upd (upd (upd E K g6) (K + 1) g7) (K + 1 + 1) g1) (K + 1 + 1 + 1) g3) (K + 1 + 1 + 1 + 1) g5) (upd (upd (upd (upd (upd B K (bx 46 (.slice (some ⟨g1, 0, none⟩) m m))) (K + 1) (bx 46 (.slice (some ⟨g3, 0, none⟩) m m))) (K + 1 + 1) (zrow 3 m (.int .i64 0))) (K + 1 + 1 + 1) (zrow 3 m (.int .i64 0))) (K + 1 + 1 + 1 + 1) (zrow 3 m (.int .i64 0))) → x 24 = .pointer (some ⟨g6, 0, none⟩) → x 25 = .pointer (some ⟨g7, 0, none⟩) → x 26 = .slice (some ⟨g5, 0, none⟩) m m → Q .normal (F x) w') :
    ((Ybaz.f38.body.bind (regAt 43)).getD .skip).wp Ybaz.prog Q (F f) w := by
  conv => arg 2; whnf
  have hlt : ∀ k, k < K → E k < w.drew.heap.size := fun k hk => (hS.row k hk).lt
  have hsz : w0.heap.size ≤ w.drew.heap.size := hS.since.size
  have HQ : Hid (∀ x w' g1 g3 g5 g6 g7, (∀ s, s < 577 → wrF (opsL (Ybaz.f38.body.bind (regAt 43))) 0 s = none → x s = f s) → St w0 w' (K + 1 + 1 + 1 + 1 + 1) (upd (upd (upd (upd (upd E K g6) (K + 1) g7) (K + 1 + 1) g1) (K + 1 + 1 + 1) g3) (K + 1 + 1 + 1 + 1) g5) (upd (upd (upd (upd (upd B K (bx 46 (.slice (some ⟨g1, 0, none⟩) m m))) (K + 1) (bx 46 (.slice (some ⟨g3, 0, none⟩) m m))) (K + 1 + 1) (zrow 3 m (.int .i64 0))) (K + 1 + 1 + 1) (zrow 3 m (.int .i64 0))) (K + 1 + 1 + 1 + 1) (zrow 3 m (.int .i64 0))) → x 24 = .pointer (some ⟨g6, 0, none⟩) → x 25 = .pointer (some ⟨g7, 0, none⟩) → x 26 = .slice (some ⟨g5, 0, none⟩) m m → Q .normal (F x) w') := hQ
  have H0 : Hid (St w0 w.drew K E B) := hS.drew
  clear hS hQ
  refine region_frm hF (γ := (Nat → Nat)) (fun i g => match i with
    | 0 => .int .i64 (m : Nat)
    | 1 => .slice (some ⟨g 1, 0, none⟩) m m
    | 2 => .int .i64 (m : Nat)
    | 3 => .slice (some ⟨g 3, 0, none⟩) m m
    | 4 => .int .i64 (m : Nat)
    | 5 => .slice (some ⟨g 5, 0, none⟩) m m
    | 6 => .pointer (some ⟨g 6, 0, none⟩)
    | 7 => .pointer (some ⟨g 7, 0, none⟩)
    | 8 => undef
    | 9 => undef
    | 10 => .slice (some ⟨g 5, 0, none⟩) m m
    | _ => undef) (fun l g w' => St w0 w' K E B ∧ Mk w.drew w' l [1, 3, 5, 6, 7] g (fun j => match j with
      | 6 => any1 46
      | 7 => any1 46
      | _ => zrow 3 m (.int .i64 0)) ∧ (l 8 = true → w'.cell? ⟨g 6, 0, none⟩ = some (.slice (some ⟨g 1, 0, none⟩) m m)) ∧ (l 9 = true → w'.cell? ⟨g 7, 0, none⟩ = some (.slice (some ⟨g 3, 0, none⟩) m m))) (fun _ => 0) (by kernel_rfl) (by kernel_rfl) ⟨H0.out, Mk.start _ _ _ _, fun h => (by cases h), fun h => (by cases h)⟩ ?_ ?_
  · refine ⟨?_, ?_, ?_, ?_, ?_, ?_, ?_, ?_, ?_, ?_, ?_, trivial⟩
    · intro l g a w' K' hp hc hl hG hM hK
      have e23 : a.eval (.tmp 23) = .int .i64 (m : Nat) := (hG.oldF hF 23 (by kernel_rfl) (by omega)).trans h23
      have hM' : St w0 w' K E B ∧ Mk w.drew w' (upd l 0 true) [1, 3, 5, 6, 7] g (fun j => match j with
            | 6 => any1 46
            | 7 => any1 46
            | _ => zrow 3 m (.int .i64 0)) ∧ ((upd l 0 true) 8 = true → w'.cell? ⟨g 6, 0, none⟩ = some (.slice (some ⟨g 1, 0, none⟩) m m)) ∧ ((upd l 0 true) 9 = true → w'.cell? ⟨g 7, 0, none⟩ = some (.slice (some ⟨g 3, 0, none⟩) m m)) := ⟨hM.1, hM.2.1.done 0 (by decide), hM.2.2⟩
      clear hc hp hG hM
      unfold Oper.wp; generalize a.eval = ρ at *; go_simp; exact hK g w' (fun _ _ => rfl) hM'
    · intro l g a w' K' hp hc hl hG hM hK
      have e213 : a.eval (.tmp 213) = .int .i64 (m : Nat) := hG.of 213 0 (by kernel_rfl) (preAt hc 11 _ hp (by kernel_rfl))
      refine op_make mty46 (.tmp 213) (.tmp 213) rfl m m e213 e213 (Nat.le_refl _) (by omega) ?_
      obtain ⟨hS, hk, m8, m9⟩ := hM
      refine hK (upd g 1 w'.heap.size) _ (fun i hi => by
              match i, hi with
              | 0, _ => rfl
              | 1, hi => exact absurd hi (by rw [hl]; decide)
              | 2, _ => rfl
              | 3, _ => rfl
              | 4, _ => rfl
              | 5, _ => rfl
              | 6, _ => rfl
              | 7, _ => rfl
              | 8, _ => rfl
              | 9, _ => rfl
              | 10, _ => rfl
              | _ + 11, _ => rfl) ⟨hS.alloc _, hk.make 1 hl _ (rowOk_z _ _ _ _), ?_, ?_⟩
      · exact fun hx => absurd hx (by rw [upd_other _ _ (by omega), hc.not 8 11 hl (by kernel_rfl)]; decide)
      · exact fun hx => by
          have hx' : l 9 = true := by rwa [upd_other _ _ (by omega)] at hx
          rw [upd_other _ _ (by omega), upd_other _ _ (by omega)]
          have hr := (hk.row 7 (by decide) (preAt2 hc 11 9 hx' (by kernel_rfl))).2.lt
          rw [World.cell?_alloc_lt _ _ _ hr]
          exact m9 hx'
    · intro l g a w' K' hp hc hl hG hM hK
      have e23 : a.eval (.tmp 23) = .int .i64 (m : Nat) := (hG.oldF hF 23 (by kernel_rfl) (by omega)).trans h23
      have hM' : St w0 w' K E B ∧ Mk w.drew w' (upd l 2 true) [1, 3, 5, 6, 7] g (fun j => match j with
            | 6 => any1 46
            | 7 => any1 46
            | _ => zrow 3 m (.int .i64 0)) ∧ ((upd l 2 true) 8 = true → w'.cell? ⟨g 6, 0, none⟩ = some (.slice (some ⟨g 1, 0, none⟩) m m)) ∧ ((upd l 2 true) 9 = true → w'.cell? ⟨g 7, 0, none⟩ = some (.slice (some ⟨g 3, 0, none⟩) m m)) := ⟨hM.1, hM.2.1.done 2 (by decide), hM.2.2⟩
      clear hc hp hG hM
      unfold Oper.wp; generalize a.eval = ρ at *; go_simp; exact hK g w' (fun _ _ => rfl) hM'
    · intro l g a w' K' hp hc hl hG hM hK
      have e215 : a.eval (.tmp 215) = .int .i64 (m : Nat) := hG.of 215 2 (by kernel_rfl) (preAt hc 11 _ hp (by kernel_rfl))
      refine op_make mty46 (.tmp 215) (.tmp 215) rfl m m e215 e215 (Nat.le_refl _) (by omega) ?_
      obtain ⟨hS, hk, m8, m9⟩ := hM
      refine hK (upd g 3 w'.heap.size) _ (fun i hi => by
              match i, hi with
              | 0, _ => rfl
              | 1, _ => rfl
              | 2, _ => rfl
              | 3, hi => exact absurd hi (by rw [hl]; decide)
              | 4, _ => rfl
              | 5, _ => rfl
              | 6, _ => rfl
              | 7, _ => rfl
              | 8, _ => rfl
              | 9, _ => rfl
              | 10, _ => rfl
              | _ + 11, _ => rfl) ⟨hS.alloc _, hk.make 3 hl _ (rowOk_z _ _ _ _), ?_, ?_⟩
      · exact fun hx => by
          have hx' : l 8 = true := by rwa [upd_other _ _ (by omega)] at hx
          rw [upd_other _ _ (by omega), upd_other _ _ (by omega)]
          have hr := (hk.row 6 (by decide) (preAt2 hc 11 8 hx' (by kernel_rfl))).2.lt
          rw [World.cell?_alloc_lt _ _ _ hr]
          exact m8 hx'
      · exact fun hx => absurd hx (by rw [upd_other _ _ (by omega), hc.not 9 11 hl (by kernel_rfl)]; decide)
    · intro l g a w' K' hp hc hl hG hM hK
      have e23 : a.eval (.tmp 23) = .int .i64 (m : Nat) := (hG.oldF hF 23 (by kernel_rfl) (by omega)).trans h23
      have hM' : St w0 w' K E B ∧ Mk w.drew w' (upd l 4 true) [1, 3, 5, 6, 7] g (fun j => match j with
            | 6 => any1 46
            | 7 => any1 46
            | _ => zrow 3 m (.int .i64 0)) ∧ ((upd l 4 true) 8 = true → w'.cell? ⟨g 6, 0, none⟩ = some (.slice (some ⟨g 1, 0, none⟩) m m)) ∧ ((upd l 4 true) 9 = true → w'.cell? ⟨g 7, 0, none⟩ = some (.slice (some ⟨g 3, 0, none⟩) m m)) := ⟨hM.1, hM.2.1.done 4 (by decide), hM.2.2⟩
      clear hc hp hG hM
      unfold Oper.wp; generalize a.eval = ρ at *; go_simp; exact hK g w' (fun _ _ => rfl) hM'
    · intro l g a w' K' hp hc hl hG hM hK
      have e217 : a.eval (.tmp 217) = .int .i64 (m : Nat) := hG.of 217 4 (by kernel_rfl) (preAt hc 11 _ hp (by kernel_rfl))
      refine op_make mty46 (.tmp 217) (.tmp 217) rfl m m e217 e217 (Nat.le_refl _) (by omega) ?_
      obtain ⟨hS, hk, m8, m9⟩ := hM
      refine hK (upd g 5 w'.heap.size) _ (fun i hi => by
              match i, hi with
              | 0, _ => rfl
              | 1, _ => rfl
              | 2, _ => rfl
              | 3, _ => rfl
              | 4, _ => rfl
              | 5, hi => exact absurd hi (by rw [hl]; decide)
              | 6, _ => rfl
              | 7, _ => rfl
              | 8, _ => rfl
              | 9, _ => rfl
              | 10, hi => exact absurd hi (by rw [hc.not 10 11 hl (by kernel_rfl)]; decide)
              | _ + 11, _ => rfl) ⟨hS.alloc _, hk.make 5 hl _ (rowOk_z _ _ _ _), ?_, ?_⟩
      · exact fun hx => by
          have hx' : l 8 = true := by rwa [upd_other _ _ (by omega)] at hx
          rw [upd_other _ _ (by omega), upd_other _ _ (by omega)]
          have hr := (hk.row 6 (by decide) (preAt2 hc 11 8 hx' (by kernel_rfl))).2.lt
          rw [World.cell?_alloc_lt _ _ _ hr]
          exact m8 hx'
      · exact fun hx => by
          have hx' : l 9 = true := by rwa [upd_other _ _ (by omega)] at hx
          rw [upd_other _ _ (by omega), upd_other _ _ (by omega)]
          have hr := (hk.row 7 (by decide) (preAt2 hc 11 9 hx' (by kernel_rfl))).2.lt
          rw [World.cell?_alloc_lt _ _ _ hr]
          exact m9 hx'
    · intro l g a w' K' hp hc hl hG hM hK
      obtain ⟨hS, hk, m8, m9⟩ := hM
      have fin := hK (upd g 6 w'.heap.size) (w'.alloc (.cells #[.slice none 0 0] 46)) (fun i hi => by
              match i, hi with
              | 0, _ => rfl
              | 1, _ => rfl
              | 2, _ => rfl
              | 3, _ => rfl
              | 4, _ => rfl
              | 5, _ => rfl
              | 6, hi => exact absurd hi (by rw [hl]; decide)
              | 7, _ => rfl
              | 8, _ => rfl
              | 9, _ => rfl
              | 10, _ => rfl
              | _ + 11, _ => rfl) ⟨hS.alloc _, hk.make 6 hl _ (rowOk_any1 _ _ _), fun hx => absurd hx (by rw [upd_other _ _ (by omega), hc.not 8 11 hl (by kernel_rfl)]; decide), fun hx => by
        have hx' : l 9 = true := by rwa [upd_other _ _ (by omega)] at hx
        rw [upd_other _ _ (by omega), upd_other _ _ (by omega)]
        have hr := (hk.row 7 (by decide) (preAt2 hc 11 9 hx' (by kernel_rfl))).2.lt
        rw [World.cell?_alloc_lt _ _ _ hr]
        exact m9 hx'⟩
      clear hK hc hp hG hS hk m8 m9
      unfold Oper.wp; generalize a.eval = ρ at *; go_simp; exact fin
    · intro l g a w' K' hp hc hl hG hM hK
      obtain ⟨hS, hk, m8, m9⟩ := hM
      have fin := hK (upd g 7 w'.heap.size) (w'.alloc (.cells #[.slice none 0 0] 46)) (fun i hi => by
              match i, hi with
              | 0, _ => rfl
              | 1, _ => rfl
              | 2, _ => rfl
              | 3, _ => rfl
              | 4, _ => rfl
              | 5, _ => rfl
              | 6, _ => rfl
              | 7, hi => exact absurd hi (by rw [hl]; decide)
              | 8, _ => rfl
              | 9, _ => rfl
              | 10, _ => rfl
              | _ + 11, _ => rfl) ⟨hS.alloc _, hk.make 7 hl _ (rowOk_any1 _ _ _), fun hx => by
        have hx' : l 8 = true := by rwa [upd_other _ _ (by omega)] at hx
        rw [upd_other _ _ (by omega), upd_other _ _ (by omega)]
        have hr := (hk.row 6 (by decide) (preAt2 hc 11 8 hx' (by kernel_rfl))).2.lt
        rw [World.cell?_alloc_lt _ _ _ hr]
        exact m8 hx', fun hx => absurd hx (by rw [upd_other _ _ (by omega), hc.not 9 11 hl (by kernel_rfl)]; decide)⟩
      clear hK hc hp hG hS hk m8 m9
      unfold Oper.wp; generalize a.eval = ρ at *; go_simp; exact fin
    · intro l g a w' K' hp hc hl hG hM hK
      have e24 : a.eval (.tmp 24) = .pointer (some ⟨g 6, 0, none⟩) := hG.of 24 6 (by kernel_rfl) (preAt hc 11 _ hp (by kernel_rfl))
      have e214 : a.eval (.tmp 214) = .slice (some ⟨g 1, 0, none⟩) m m := hG.of 214 1 (by kernel_rfl) (preAt hc 11 _ hp (by kernel_rfl))
      obtain ⟨hS, hk, m8, m9⟩ := hM
      have hb : l 6 = true := preAt hc 11 _ hp (by kernel_rfl)
      obtain ⟨p1, r1⟩ := hk.row 6 (by decide) hb
      obtain ⟨u, ku, _⟩ := r1.cell (i := 0) (by show 0 < 1; omega)
      have kf := r1.frozen 0
      have fin := hK g (w'.setCell ⟨g 6, 0, none⟩ (.slice (some ⟨g 1, 0, none⟩) m m)) (fun _ _ => rfl) ⟨hS.other (by omega) (fun k hk' => by have := hlt k hk'; omega) _ _, (hk.put 6 (by decide) hb trivial).done 8 (by decide), fun _ => World.cell?_setCell_same _ _ _ ku, fun hx => by
        have hx' : l 9 = true := by rwa [upd_other _ _ (by omega)] at hx
        have hb' : l 7 = true := preAt2 hc 11 9 hx' (by kernel_rfl)
        exact (hk.far 6 (fun e => absurd (hk.ne 7 (by decide) 6 (by decide) hb' hb e) (by omega)) _ _ _).trans (m9 hx')⟩
      clear hK hc hp hG hS hk m8 m9 r1
      unfold Oper.wp; generalize a.eval = ρ at *; go_simp; exact fin
    · intro l g a w' K' hp hc hl hG hM hK
      have e25 : a.eval (.tmp 25) = .pointer (some ⟨g 7, 0, none⟩) := hG.of 25 7 (by kernel_rfl) (preAt hc 11 _ hp (by kernel_rfl))
      have e216 : a.eval (.tmp 216) = .slice (some ⟨g 3, 0, none⟩) m m := hG.of 216 3 (by kernel_rfl) (preAt hc 11 _ hp (by kernel_rfl))
      obtain ⟨hS, hk, m8, m9⟩ := hM
      have hb : l 7 = true := preAt hc 11 _ hp (by kernel_rfl)
      obtain ⟨p1, r1⟩ := hk.row 7 (by decide) hb
      obtain ⟨u, ku, _⟩ := r1.cell (i := 0) (by show 0 < 1; omega)
      have kf := r1.frozen 0
      have fin := hK g (w'.setCell ⟨g 7, 0, none⟩ (.slice (some ⟨g 3, 0, none⟩) m m)) (fun _ _ => rfl) ⟨hS.other (by omega) (fun k hk' => by have := hlt k hk'; omega) _ _, (hk.put 7 (by decide) hb trivial).done 9 (by decide), fun hx => by
        have hx' : l 8 = true := by rwa [upd_other _ _ (by omega)] at hx
        have hb' : l 6 = true := preAt2 hc 11 8 hx' (by kernel_rfl)
        exact (hk.far 7 (fun e => absurd (hk.ne 6 (by decide) 7 (by decide) hb' hb e) (by omega)) _ _ _).trans (m8 hx'), fun _ => World.cell?_setCell_same _ _ _ ku⟩
      clear hK hc hp hG hS hk m8 m9 r1
      unfold Oper.wp; generalize a.eval = ρ at *; go_simp; exact fin
    · intro l g a w' K' hp hc hl hG hM hK
      have e218 : a.eval (.tmp 218) = .slice (some ⟨g 5, 0, none⟩) m m := hG.of 218 5 (by kernel_rfl) (preAt hc 11 _ hp (by kernel_rfl))
      have hM' : St w0 w' K E B ∧ Mk w.drew w' (upd l 10 true) [1, 3, 5, 6, 7] g (fun j => match j with
            | 6 => any1 46
            | 7 => any1 46
            | _ => zrow 3 m (.int .i64 0)) ∧ ((upd l 10 true) 8 = true → w'.cell? ⟨g 6, 0, none⟩ = some (.slice (some ⟨g 1, 0, none⟩) m m)) ∧ ((upd l 10 true) 9 = true → w'.cell? ⟨g 7, 0, none⟩ = some (.slice (some ⟨g 3, 0, none⟩) m m)) := ⟨hM.1, hM.2.1.done 10 (by decide), hM.2.2⟩
      clear hc hp hG hM
      unfold Oper.wp; generalize a.eval = ρ at *; go_simp; exact hK g w' (fun _ _ => rfl) hM'
  · intro l g x w' hl hv ho hM
    obtain ⟨hS, hk, m8, m9⟩ := hM
    have all : ∀ i, i < 11 → l i = true := hl
    obtain ⟨p6, r6⟩ := hk.row 6 (by decide) (all 6 (by omega))
    obtain ⟨p7, r7⟩ := hk.row 7 (by decide) (all 7 (by omega))
    obtain ⟨p1, r1⟩ := hk.row 1 (by decide) (all 1 (by omega))
    obtain ⟨p3, r3⟩ := hk.row 3 (by decide) (all 3 (by omega))
    obtain ⟨p5, r5⟩ := hk.row 5 (by decide) (all 5 (by omega))
    have n6_7 : g 6 ≠ g 7 := fun e => absurd (hk.ne 6 (by decide) 7 (by decide) (all 6 (by omega)) (all 7 (by omega)) e) (by omega)
    have n6_1 : g 6 ≠ g 1 := fun e => absurd (hk.ne 6 (by decide) 1 (by decide) (all 6 (by omega)) (all 1 (by omega)) e) (by omega)
    have n6_3 : g 6 ≠ g 3 := fun e => absurd (hk.ne 6 (by decide) 3 (by decide) (all 6 (by omega)) (all 3 (by omega)) e) (by omega)
    have n6_5 : g 6 ≠ g 5 := fun e => absurd (hk.ne 6 (by decide) 5 (by decide) (all 6 (by omega)) (all 5 (by omega)) e) (by omega)
    have n7_1 : g 7 ≠ g 1 := fun e => absurd (hk.ne 7 (by decide) 1 (by decide) (all 7 (by omega)) (all 1 (by omega)) e) (by omega)
    have n7_3 : g 7 ≠ g 3 := fun e => absurd (hk.ne 7 (by decide) 3 (by decide) (all 7 (by omega)) (all 3 (by omega)) e) (by omega)
    have n7_5 : g 7 ≠ g 5 := fun e => absurd (hk.ne 7 (by decide) 5 (by decide) (all 7 (by omega)) (all 5 (by omega)) e) (by omega)
    have n1_3 : g 1 ≠ g 3 := fun e => absurd (hk.ne 1 (by decide) 3 (by decide) (all 1 (by omega)) (all 3 (by omega)) e) (by omega)
    have n1_5 : g 1 ≠ g 5 := fun e => absurd (hk.ne 1 (by decide) 5 (by decide) (all 1 (by omega)) (all 5 (by omega)) e) (by omega)
    have n3_5 : g 3 ≠ g 5 := fun e => absurd (hk.ne 3 (by decide) 5 (by decide) (all 3 (by omega)) (all 5 (by omega)) e) (by omega)
    have q6 := r6.know (m8 (all 8 (by omega))) (bx 46 (.slice (some ⟨g 1, 0, none⟩) m m)) rfl rfl (fun j u hj _ he => he (by have : j < 1 := hj; omega))
    have q7 := r7.know (m9 (all 9 (by omega))) (bx 46 (.slice (some ⟨g 3, 0, none⟩) m m)) rfl rfl (fun j u hj _ he => he (by have : j < 1 := hj; omega))
    have s0 := hS.add (g 6) _ q6 (by omega) (fun k hk => by
      have := hlt k (by omega)
      omega)
    have s1 := s0.add (g 7) _ q7 (by omega) (fun k hk => by
      by_cases e0 : k = K
      · subst e0; rw [upd_same]; exact n6_7
      rw [upd_other _ _ e0]
      have := hlt k (by omega)
      omega)
    have s2 := s1.add (g 1) _ r1 (by omega) (fun k hk => by
      by_cases e1 : k = K + 1
      · subst e1; rw [upd_same]; exact n7_1
      rw [upd_other _ _ e1]
      by_cases e0 : k = K
      · subst e0; rw [upd_same]; exact n6_1
      rw [upd_other _ _ e0]
      have := hlt k (by omega)
      omega)
    have s3 := s2.add (g 3) _ r3 (by omega) (fun k hk => by
      by_cases e2 : k = K + 1 + 1
      · subst e2; rw [upd_same]; exact n1_3
      rw [upd_other _ _ e2]
      by_cases e1 : k = K + 1
      · subst e1; rw [upd_same]; exact n7_3
      rw [upd_other _ _ e1]
      by_cases e0 : k = K
      · subst e0; rw [upd_same]; exact n6_3
      rw [upd_other _ _ e0]
      have := hlt k (by omega)
      omega)
    have s4 := s3.add (g 5) _ r5 (by omega) (fun k hk => by
      by_cases e3 : k = K + 1 + 1 + 1
      · subst e3; rw [upd_same]; exact n3_5
      rw [upd_other _ _ e3]
      by_cases e2 : k = K + 1 + 1
      · subst e2; rw [upd_same]; exact n1_5
      rw [upd_other _ _ e2]
      by_cases e1 : k = K + 1
      · subst e1; rw [upd_same]; exact n7_5
      rw [upd_other _ _ e1]
      by_cases e0 : k = K
      · subst e0; rw [upd_same]; exact n6_5
      rw [upd_other _ _ e0]
      have := hlt k (by omega)
      omega)
    exact HQ.out x w' (g 1) (g 3) (g 5) (g 6) (g 7) (fun s hs hw => ho s hs hw) s4 (hv 24 6 (by omega) (by kernel_rfl)) (hv 25 7 (by omega) (by kernel_rfl)) (hv 26 10 (by omega) (by kernel_rfl))
end Go.Proofs.YbulkexmzaGreat
