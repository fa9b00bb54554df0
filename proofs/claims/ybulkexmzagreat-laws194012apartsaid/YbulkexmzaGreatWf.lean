/-
  The law's check: region 118.
-/
import Derived.Test.YbulkexmzaGreatWe
namespace Go.Proofs.YbulkexmzaGreat
open Go.RowKit
attribute [local go_sem] fup_at
theorem drewN_add (w : World) (a b : Nat) : (w.drewN a).drewN b = w.drewN (a + b) := by
  unfold World.drewN
  simp only [Nat.add_assoc]
set_option maxHeartbeats 4000000 in
set_option maxRecDepth 100000 in
theorem c118 {F : (Nat → Value) → Act} (hF : Fr 559 F) {w : World} {bb lb vb kk M c43 il ic jc sl sc tc : Nat} {ia ja sa ta : Option Addr} {kz pz : Int} {f : Nat → Value} {Q : Exit → Act → World → Prop}
    (hkM : kk < M) (k1 : w.cell? ⟨bb, 1, none⟩ = some (.slice ia il ic)) (k2 : w.cell? ⟨bb, 2, none⟩ = some (.int .u8 kz)) (k4 : w.cell? ⟨bb, 4, none⟩ = some (.slice sa sl sc)) (k5 : w.cell? ⟨bb, 5, none⟩ = some (.int .i64 pz)) (l2 : w.cell? ⟨lb, 2, none⟩ = some (.int .u8 kz)) (l4 : w.cell? ⟨lb, 4, none⟩ = some (.slice ta sl tc)) (l5 : w.cell? ⟨lb, 5, none⟩ = some (.int .i64 pz)) (kv : w.cell? ⟨vb, kk, none⟩ = some (.slice ja il jc))
    (hc5 : ∀ q, Calls Ybaz.prog 5 #[.slice ia il ic, .slice ja il jc] (w.drew.drewN q) fun e w' => e = .returned (.bool true) ∧ ∃ k, w' = (w.drew.drewN q).drewN k) (hc6 : ∀ q, Calls Ybaz.prog 6 #[.slice sa sl sc, .slice ta sl tc] (w.drew.drewN q) fun e w' => e = .returned (.bool true) ∧ ∃ k, w' = (w.drew.drewN q).drewN k)
    (h43 : f 43 = .slice (some ⟨vb, 0, none⟩) M c43) (h47 : f 47 = .int .i64 (kk : Nat)) (h48 : f 48 = .pointer (some ⟨bb, 0, none⟩)) (h49 : f 49 = .pointer (some ⟨lb, 0, none⟩))
    (hQ : ∀ y q, (∀ s, s < 559 → wrF (opsL (Ybaz.f3.body.bind (regAt 118))) 0 s = none → y s = f s) → y 556 = .bool false → Q .normal (F y) (w.drewN q)) :
    ((Ybaz.f3.body.bind (regAt 118)).getD .skip).wp Ybaz.prog Q (F f) w := by
  conv => arg 2; whnf
  have HQ : Hid (∀ y q, (∀ s, s < 559 → wrF (opsL (Ybaz.f3.body.bind (regAt 118))) 0 s = none → y s = f s) → y 556 = .bool false → Q .normal (F y) (w.drewN q)) := hQ
  have H5 : Hid (∀ q, Calls Ybaz.prog 5 #[.slice ia il ic, .slice ja il jc] (w.drew.drewN q) fun e w' => e = .returned (.bool true) ∧ ∃ k, w' = (w.drew.drewN q).drewN k) := hc5
  have H6 : Hid (∀ q, Calls Ybaz.prog 6 #[.slice sa sl sc, .slice ta sl tc] (w.drew.drewN q) fun e w' => e = .returned (.bool true) ∧ ∃ k, w' = (w.drew.drewN q).drewN k) := hc6
  have k1 : w.drew.cell? ⟨bb, 1, none⟩ = some (.slice ia il ic) := k1
  have k2 : w.drew.cell? ⟨bb, 2, none⟩ = some (.int .u8 kz) := k2
  have k4 : w.drew.cell? ⟨bb, 4, none⟩ = some (.slice sa sl sc) := k4
  have k5 : w.drew.cell? ⟨bb, 5, none⟩ = some (.int .i64 pz) := k5
  have l2 : w.drew.cell? ⟨lb, 2, none⟩ = some (.int .u8 kz) := l2
  have l4 : w.drew.cell? ⟨lb, 4, none⟩ = some (.slice ta sl tc) := l4
  have l5 : w.drew.cell? ⟨lb, 5, none⟩ = some (.int .i64 pz) := l5
  have kv : w.drew.cell? ⟨vb, kk, none⟩ = some (.slice ja il jc) := kv
  clear hQ hc5 hc6
  obtain ⟨wd, hwd⟩ : ∃ wd, wd = w.drew := ⟨_, rfl⟩
  have HWD : Hid (wd = w.drew) := hwd
  rw [← hwd] at H5 H6 k1 k2 k4 k5 l2 l4 l5 kv
  have HM0 : Hid (∃ q, w.drew = wd.drewN q) := ⟨0, hwd.symm⟩
  clear hwd
  refine region_envG (γ := Unit) (fun op9 g => match op9 with
    | 0 => .pointer (some ⟨bb, 0, none⟩)
    | 1 => .pointer (some ⟨bb, 0, none⟩)
    | 2 => .pointer (some ⟨bb, 1, none⟩)
    | 3 => .slice ia il ic
    | 4 => .slice (some ⟨vb, 0, none⟩) M c43
    | 5 => .int .i64 (kk : Nat)
    | 6 => .pointer (some ⟨vb, kk, none⟩)
    | 7 => .slice ja il jc
    | 8 => .bool true
    | 9 => .bool false
    | 10 => .bool false
    | 11 => .pointer (some ⟨bb, 0, none⟩)
    | 12 => .pointer (some ⟨bb, 0, none⟩)
    | 13 => .pointer (some ⟨bb, 2, none⟩)
    | 14 => .int .u8 kz
    | 15 => .pointer (some ⟨lb, 2, none⟩)
    | 16 => .int .u8 kz
    | 17 => .bool false
    | 18 => .bool false
    | 19 => .bool false
    | 20 => .pointer (some ⟨bb, 0, none⟩)
    | 21 => .pointer (some ⟨bb, 0, none⟩)
    | 22 => .pointer (some ⟨bb, 5, none⟩)
    | 23 => .int .i64 pz
    | 24 => .pointer (some ⟨lb, 5, none⟩)
    | 25 => .int .i64 pz
    | 26 => .bool false
    | 27 => .bool false
    | 28 => .bool false
    | 29 => .pointer (some ⟨bb, 0, none⟩)
    | 30 => .pointer (some ⟨bb, 0, none⟩)
    | 31 => .pointer (some ⟨bb, 4, none⟩)
    | 32 => .slice sa sl sc
    | 33 => .pointer (some ⟨lb, 4, none⟩)
    | 34 => .slice ta sl tc
    | 35 => .bool true
    | 36 => .bool false
    | 37 => .bool false
    | _ => undef) (fun _ _ w' => ∃ q, w' = wd.drewN q) 559 () (by kernel_rfl) (hF.size f) (by kernel_rfl) HM0.out ?_ ?_
  · refine ⟨?_, ?_, ?_, ?_, ?_, ?_, ?_, ?_, ?_, ?_, ?_, ?_, ?_, ?_, ?_, ?_, ?_, ?_, ?_, ?_, ?_, ?_, ?_, ?_, ?_, ?_, ?_, ?_, ?_, ?_, ?_, ?_, ?_, ?_, ?_, ?_, ?_, ?_, trivial⟩
    · intro l g a w' K hp hc hl hgd hM hK
      rw [if_pos (no_guard rfl)]
      have e48 : a.eval (.tmp 48) = .pointer (some ⟨bb, 0, none⟩) := (hgd.old 48 (by kernel_rfl)).trans ((hF.eval f (by omega)).trans h48)
      clear hc hp hgd
      unfold Oper.wp; generalize a.eval = ρ at *; go_simp; exact hK g w' (fun _ _ => rfl) hM
    · intro l g a w' K hp hc hl hgd hM hK
      rw [if_pos (no_guard rfl)]
      have e519 : a.eval (.tmp 519) = .pointer (some ⟨bb, 0, none⟩) := hgd.of 519 0 (by kernel_rfl) (preAt hc 38 _ hp (by kernel_rfl))
      clear hc hp hgd
      unfold Oper.wp; generalize a.eval = ρ at *; go_simp; exact hK g w' (fun _ _ => rfl) hM
    · intro l g a w' K hp hc hl hgd hM hK
      rw [if_pos (no_guard rfl)]
      have e520 : a.eval (.tmp 520) = .pointer (some ⟨bb, 0, none⟩) := hgd.of 520 1 (by kernel_rfl) (preAt hc 38 _ hp (by kernel_rfl))
      clear hc hp hgd
      unfold Oper.wp; generalize a.eval = ρ at *; go_simp; exact hK g w' (fun _ _ => rfl) hM
    · intro l g a w' K hp hc hl hgd hM hK
      rw [if_pos (no_guard rfl)]
      have e521 : a.eval (.tmp 521) = .pointer (some ⟨bb, 1, none⟩) := hgd.of 521 2 (by kernel_rfl) (preAt hc 38 _ hp (by kernel_rfl))
      have kk9 : w'.cell? ⟨bb, 1, none⟩ = some (.slice ia il ic) := by
        obtain ⟨q, rfl⟩ := hM
        exact k1
      clear hc hp hgd
      unfold Oper.wp; generalize a.eval = ρ at *; go_simp; exact hK g w' (fun _ _ => rfl) hM
    · intro l g a w' K hp hc hl hgd hM hK
      rw [if_pos (no_guard rfl)]
      have e43 : a.eval (.tmp 43) = .slice (some ⟨vb, 0, none⟩) M c43 := (hgd.old 43 (by kernel_rfl)).trans ((hF.eval f (by omega)).trans h43)
      clear hc hp hgd
      unfold Oper.wp; generalize a.eval = ρ at *; go_simp; exact hK g w' (fun _ _ => rfl) hM
    · intro l g a w' K hp hc hl hgd hM hK
      rw [if_pos (no_guard rfl)]
      have e47 : a.eval (.tmp 47) = .int .i64 (kk : Nat) := (hgd.old 47 (by kernel_rfl)).trans ((hF.eval f (by omega)).trans h47)
      clear hc hp hgd
      unfold Oper.wp; generalize a.eval = ρ at *; go_simp; exact hK g w' (fun _ _ => rfl) hM
    · intro l g a w' K hp hc hl hgd hM hK
      rw [if_pos (no_guard rfl)]
      have e523 : a.eval (.tmp 523) = .slice (some ⟨vb, 0, none⟩) M c43 := hgd.of 523 4 (by kernel_rfl) (preAt hc 38 _ hp (by kernel_rfl))
      have e524 : a.eval (.tmp 524) = .int .i64 (kk : Nat) := hgd.of 524 5 (by kernel_rfl) (preAt hc 38 _ hp (by kernel_rfl))
      clear hc hp hgd
      unfold Oper.wp; generalize a.eval = ρ at *; go_simp; exact hK g w' (fun _ _ => rfl) hM
    · intro l g a w' K hp hc hl hgd hM hK
      rw [if_pos (no_guard rfl)]
      have e525 : a.eval (.tmp 525) = .pointer (some ⟨vb, kk, none⟩) := hgd.of 525 6 (by kernel_rfl) (preAt hc 38 _ hp (by kernel_rfl))
      have kk9 : w'.cell? ⟨vb, kk, none⟩ = some (.slice ja il jc) := by
        obtain ⟨q, rfl⟩ := hM
        exact kv
      clear hc hp hgd
      unfold Oper.wp; generalize a.eval = ρ at *; go_simp; exact hK g w' (fun _ _ => rfl) hM
    · intro l g a w' K hp hc hl hgd hM hK
      rw [if_pos (no_guard rfl)]
      have e522 : a.eval (.tmp 522) = .slice ia il ic := hgd.of 522 3 (by kernel_rfl) (preAt hc 38 _ hp (by kernel_rfl))
      have e526 : a.eval (.tmp 526) = .slice ja il jc := hgd.of 526 7 (by kernel_rfl) (preAt hc 38 _ hp (by kernel_rfl))
      have ef : ∀ k, a.eval (.func k) = .func (.func k) #[] #[] := fun _ => rfl
      obtain ⟨q, hq⟩ := hM
      have HC := H5.out q
      rw [← hq] at HC
      have FIN : Hid (∀ k, K (a.put (some 527) (.bool true)) (w'.drewN k)) := fun k => hK g (w'.drewN k) (fun _ _ => rfl) ⟨q + k, by rw [hq]; exact drewN_add _ _ _⟩
      clear hK hc hp hgd hq
      unfold Oper.wp; generalize hρ : a.eval = ρ at *; go_simp
      refine Calls.mono HC ?_
      rintro e w'' ⟨rfl, k, rfl⟩
      exact FIN.out k
    · intro l g a w' K hp hc hl hgd hM hK
      rw [if_pos (no_guard rfl)]
      have e527 : a.eval (.tmp 527) = .bool true := hgd.of 527 8 (by kernel_rfl) (preAt hc 38 _ hp (by kernel_rfl))
      clear hc hp hgd
      unfold Oper.wp; generalize a.eval = ρ at *; go_simp; exact hK g w' (fun _ _ => rfl) hM
    · intro l g a w' K hp hc hl hgd hM hK
      rw [if_pos (no_guard rfl)]
      have e528 : a.eval (.tmp 528) = .bool false := hgd.of 528 9 (by kernel_rfl) (preAt hc 38 _ hp (by kernel_rfl))
      clear hc hp hgd
      unfold Oper.wp; generalize a.eval = ρ at *; go_simp; exact hK g w' (fun _ _ => rfl) hM
    · intro l g a w' K hp hc hl hgd hM hK
      have eg : a.eval (.tmp 529) = .bool false := hgd.of 529 10 (by kernel_rfl) (preAt hc 38 _ hp (by kernel_rfl))
      rw [if_pos (is_wanted (s := 529) rfl rfl eg)]
      clear eg
      have e48 : a.eval (.tmp 48) = .pointer (some ⟨bb, 0, none⟩) := (hgd.old 48 (by kernel_rfl)).trans ((hF.eval f (by omega)).trans h48)
      clear hc hp hgd
      unfold Oper.wp; generalize a.eval = ρ at *; go_simp; exact hK g w' (fun _ _ => rfl) hM
    · intro l g a w' K hp hc hl hgd hM hK
      have eg : a.eval (.tmp 529) = .bool false := hgd.of 529 10 (by kernel_rfl) (preAt hc 38 _ hp (by kernel_rfl))
      rw [if_pos (is_wanted (s := 529) rfl rfl eg)]
      clear eg
      have e530 : a.eval (.tmp 530) = .pointer (some ⟨bb, 0, none⟩) := hgd.of 530 11 (by kernel_rfl) (preAt hc 38 _ hp (by kernel_rfl))
      clear hc hp hgd
      unfold Oper.wp; generalize a.eval = ρ at *; go_simp; exact hK g w' (fun _ _ => rfl) hM
    · intro l g a w' K hp hc hl hgd hM hK
      have eg : a.eval (.tmp 529) = .bool false := hgd.of 529 10 (by kernel_rfl) (preAt hc 38 _ hp (by kernel_rfl))
      rw [if_pos (is_wanted (s := 529) rfl rfl eg)]
      clear eg
      have e531 : a.eval (.tmp 531) = .pointer (some ⟨bb, 0, none⟩) := hgd.of 531 12 (by kernel_rfl) (preAt hc 38 _ hp (by kernel_rfl))
      clear hc hp hgd
      unfold Oper.wp; generalize a.eval = ρ at *; go_simp; exact hK g w' (fun _ _ => rfl) hM
    · intro l g a w' K hp hc hl hgd hM hK
      have eg : a.eval (.tmp 529) = .bool false := hgd.of 529 10 (by kernel_rfl) (preAt hc 38 _ hp (by kernel_rfl))
      rw [if_pos (is_wanted (s := 529) rfl rfl eg)]
      clear eg
      have e532 : a.eval (.tmp 532) = .pointer (some ⟨bb, 2, none⟩) := hgd.of 532 13 (by kernel_rfl) (preAt hc 38 _ hp (by kernel_rfl))
      have kk9 : w'.cell? ⟨bb, 2, none⟩ = some (.int .u8 kz) := by
        obtain ⟨q, rfl⟩ := hM
        exact k2
      clear hc hp hgd
      unfold Oper.wp; generalize a.eval = ρ at *; go_simp; exact hK g w' (fun _ _ => rfl) hM
    · intro l g a w' K hp hc hl hgd hM hK
      have eg : a.eval (.tmp 529) = .bool false := hgd.of 529 10 (by kernel_rfl) (preAt hc 38 _ hp (by kernel_rfl))
      rw [if_pos (is_wanted (s := 529) rfl rfl eg)]
      clear eg
      have e49 : a.eval (.tmp 49) = .pointer (some ⟨lb, 0, none⟩) := (hgd.old 49 (by kernel_rfl)).trans ((hF.eval f (by omega)).trans h49)
      clear hc hp hgd
      unfold Oper.wp; generalize a.eval = ρ at *; go_simp; exact hK g w' (fun _ _ => rfl) hM
    · intro l g a w' K hp hc hl hgd hM hK
      have eg : a.eval (.tmp 529) = .bool false := hgd.of 529 10 (by kernel_rfl) (preAt hc 38 _ hp (by kernel_rfl))
      rw [if_pos (is_wanted (s := 529) rfl rfl eg)]
      clear eg
      have e534 : a.eval (.tmp 534) = .pointer (some ⟨lb, 2, none⟩) := hgd.of 534 15 (by kernel_rfl) (preAt hc 38 _ hp (by kernel_rfl))
      have kk9 : w'.cell? ⟨lb, 2, none⟩ = some (.int .u8 kz) := by
        obtain ⟨q, rfl⟩ := hM
        exact l2
      clear hc hp hgd
      unfold Oper.wp; generalize a.eval = ρ at *; go_simp; exact hK g w' (fun _ _ => rfl) hM
    · intro l g a w' K hp hc hl hgd hM hK
      have eg : a.eval (.tmp 529) = .bool false := hgd.of 529 10 (by kernel_rfl) (preAt hc 38 _ hp (by kernel_rfl))
      rw [if_pos (is_wanted (s := 529) rfl rfl eg)]
      clear eg
      have e533 : a.eval (.tmp 533) = .int .u8 kz := hgd.of 533 14 (by kernel_rfl) (preAt hc 38 _ hp (by kernel_rfl))
      have e535 : a.eval (.tmp 535) = .int .u8 kz := hgd.of 535 16 (by kernel_rfl) (preAt hc 38 _ hp (by kernel_rfl))
      clear hc hp hgd
      unfold Oper.wp; generalize a.eval = ρ at *; go_simp; exact hK g w' (fun _ _ => rfl) hM
    · intro l g a w' K hp hc hl hgd hM hK
      rw [if_pos (no_guard rfl)]
      have e529 : a.eval (.tmp 529) = .bool false := hgd.of 529 10 (by kernel_rfl) (preAt hc 38 _ hp (by kernel_rfl))
      have e536 : a.eval (.tmp 536) = .bool false := hgd.of 536 17 (by kernel_rfl) (preAt hc 38 _ hp (by kernel_rfl))
      have ec : ∀ v, a.eval (.const v) = v := fun _ => rfl
      clear hc hp hgd
      unfold Oper.wp; generalize a.eval = ρ at *; go_simp; exact hK g w' (fun _ _ => rfl) hM
    · intro l g a w' K hp hc hl hgd hM hK
      rw [if_pos (no_guard rfl)]
      have e537 : a.eval (.tmp 537) = .bool false := hgd.of 537 18 (by kernel_rfl) (preAt hc 38 _ hp (by kernel_rfl))
      clear hc hp hgd
      unfold Oper.wp; generalize a.eval = ρ at *; go_simp; exact hK g w' (fun _ _ => rfl) hM
    · intro l g a w' K hp hc hl hgd hM hK
      have eg : a.eval (.tmp 538) = .bool false := hgd.of 538 19 (by kernel_rfl) (preAt hc 38 _ hp (by kernel_rfl))
      rw [if_pos (is_wanted (s := 538) rfl rfl eg)]
      clear eg
      have e48 : a.eval (.tmp 48) = .pointer (some ⟨bb, 0, none⟩) := (hgd.old 48 (by kernel_rfl)).trans ((hF.eval f (by omega)).trans h48)
      clear hc hp hgd
      unfold Oper.wp; generalize a.eval = ρ at *; go_simp; exact hK g w' (fun _ _ => rfl) hM
    · intro l g a w' K hp hc hl hgd hM hK
      have eg : a.eval (.tmp 538) = .bool false := hgd.of 538 19 (by kernel_rfl) (preAt hc 38 _ hp (by kernel_rfl))
      rw [if_pos (is_wanted (s := 538) rfl rfl eg)]
      clear eg
      have e539 : a.eval (.tmp 539) = .pointer (some ⟨bb, 0, none⟩) := hgd.of 539 20 (by kernel_rfl) (preAt hc 38 _ hp (by kernel_rfl))
      clear hc hp hgd
      unfold Oper.wp; generalize a.eval = ρ at *; go_simp; exact hK g w' (fun _ _ => rfl) hM
    · intro l g a w' K hp hc hl hgd hM hK
      have eg : a.eval (.tmp 538) = .bool false := hgd.of 538 19 (by kernel_rfl) (preAt hc 38 _ hp (by kernel_rfl))
      rw [if_pos (is_wanted (s := 538) rfl rfl eg)]
      clear eg
      have e540 : a.eval (.tmp 540) = .pointer (some ⟨bb, 0, none⟩) := hgd.of 540 21 (by kernel_rfl) (preAt hc 38 _ hp (by kernel_rfl))
      clear hc hp hgd
      unfold Oper.wp; generalize a.eval = ρ at *; go_simp; exact hK g w' (fun _ _ => rfl) hM
    · intro l g a w' K hp hc hl hgd hM hK
      have eg : a.eval (.tmp 538) = .bool false := hgd.of 538 19 (by kernel_rfl) (preAt hc 38 _ hp (by kernel_rfl))
      rw [if_pos (is_wanted (s := 538) rfl rfl eg)]
      clear eg
      have e541 : a.eval (.tmp 541) = .pointer (some ⟨bb, 5, none⟩) := hgd.of 541 22 (by kernel_rfl) (preAt hc 38 _ hp (by kernel_rfl))
      have kk9 : w'.cell? ⟨bb, 5, none⟩ = some (.int .i64 pz) := by
        obtain ⟨q, rfl⟩ := hM
        exact k5
      clear hc hp hgd
      unfold Oper.wp; generalize a.eval = ρ at *; go_simp; exact hK g w' (fun _ _ => rfl) hM
    · intro l g a w' K hp hc hl hgd hM hK
      have eg : a.eval (.tmp 538) = .bool false := hgd.of 538 19 (by kernel_rfl) (preAt hc 38 _ hp (by kernel_rfl))
      rw [if_pos (is_wanted (s := 538) rfl rfl eg)]
      clear eg
      have e49 : a.eval (.tmp 49) = .pointer (some ⟨lb, 0, none⟩) := (hgd.old 49 (by kernel_rfl)).trans ((hF.eval f (by omega)).trans h49)
      clear hc hp hgd
      unfold Oper.wp; generalize a.eval = ρ at *; go_simp; exact hK g w' (fun _ _ => rfl) hM
    · intro l g a w' K hp hc hl hgd hM hK
      have eg : a.eval (.tmp 538) = .bool false := hgd.of 538 19 (by kernel_rfl) (preAt hc 38 _ hp (by kernel_rfl))
      rw [if_pos (is_wanted (s := 538) rfl rfl eg)]
      clear eg
      have e543 : a.eval (.tmp 543) = .pointer (some ⟨lb, 5, none⟩) := hgd.of 543 24 (by kernel_rfl) (preAt hc 38 _ hp (by kernel_rfl))
      have kk9 : w'.cell? ⟨lb, 5, none⟩ = some (.int .i64 pz) := by
        obtain ⟨q, rfl⟩ := hM
        exact l5
      clear hc hp hgd
      unfold Oper.wp; generalize a.eval = ρ at *; go_simp; exact hK g w' (fun _ _ => rfl) hM
    · intro l g a w' K hp hc hl hgd hM hK
      have eg : a.eval (.tmp 538) = .bool false := hgd.of 538 19 (by kernel_rfl) (preAt hc 38 _ hp (by kernel_rfl))
      rw [if_pos (is_wanted (s := 538) rfl rfl eg)]
      clear eg
      have e542 : a.eval (.tmp 542) = .int .i64 pz := hgd.of 542 23 (by kernel_rfl) (preAt hc 38 _ hp (by kernel_rfl))
      have e544 : a.eval (.tmp 544) = .int .i64 pz := hgd.of 544 25 (by kernel_rfl) (preAt hc 38 _ hp (by kernel_rfl))
      clear hc hp hgd
      unfold Oper.wp; generalize a.eval = ρ at *; go_simp; exact hK g w' (fun _ _ => rfl) hM
    · intro l g a w' K hp hc hl hgd hM hK
      rw [if_pos (no_guard rfl)]
      have e538 : a.eval (.tmp 538) = .bool false := hgd.of 538 19 (by kernel_rfl) (preAt hc 38 _ hp (by kernel_rfl))
      have e545 : a.eval (.tmp 545) = .bool false := hgd.of 545 26 (by kernel_rfl) (preAt hc 38 _ hp (by kernel_rfl))
      have ec : ∀ v, a.eval (.const v) = v := fun _ => rfl
      clear hc hp hgd
      unfold Oper.wp; generalize a.eval = ρ at *; go_simp; exact hK g w' (fun _ _ => rfl) hM
    · intro l g a w' K hp hc hl hgd hM hK
      rw [if_pos (no_guard rfl)]
      have e546 : a.eval (.tmp 546) = .bool false := hgd.of 546 27 (by kernel_rfl) (preAt hc 38 _ hp (by kernel_rfl))
      clear hc hp hgd
      unfold Oper.wp; generalize a.eval = ρ at *; go_simp; exact hK g w' (fun _ _ => rfl) hM
    · intro l g a w' K hp hc hl hgd hM hK
      have eg : a.eval (.tmp 547) = .bool false := hgd.of 547 28 (by kernel_rfl) (preAt hc 38 _ hp (by kernel_rfl))
      rw [if_pos (is_wanted (s := 547) rfl rfl eg)]
      clear eg
      have e48 : a.eval (.tmp 48) = .pointer (some ⟨bb, 0, none⟩) := (hgd.old 48 (by kernel_rfl)).trans ((hF.eval f (by omega)).trans h48)
      clear hc hp hgd
      unfold Oper.wp; generalize a.eval = ρ at *; go_simp; exact hK g w' (fun _ _ => rfl) hM
    · intro l g a w' K hp hc hl hgd hM hK
      have eg : a.eval (.tmp 547) = .bool false := hgd.of 547 28 (by kernel_rfl) (preAt hc 38 _ hp (by kernel_rfl))
      rw [if_pos (is_wanted (s := 547) rfl rfl eg)]
      clear eg
      have e548 : a.eval (.tmp 548) = .pointer (some ⟨bb, 0, none⟩) := hgd.of 548 29 (by kernel_rfl) (preAt hc 38 _ hp (by kernel_rfl))
      clear hc hp hgd
      unfold Oper.wp; generalize a.eval = ρ at *; go_simp; exact hK g w' (fun _ _ => rfl) hM
    · intro l g a w' K hp hc hl hgd hM hK
      have eg : a.eval (.tmp 547) = .bool false := hgd.of 547 28 (by kernel_rfl) (preAt hc 38 _ hp (by kernel_rfl))
      rw [if_pos (is_wanted (s := 547) rfl rfl eg)]
      clear eg
      have e549 : a.eval (.tmp 549) = .pointer (some ⟨bb, 0, none⟩) := hgd.of 549 30 (by kernel_rfl) (preAt hc 38 _ hp (by kernel_rfl))
      clear hc hp hgd
      unfold Oper.wp; generalize a.eval = ρ at *; go_simp; exact hK g w' (fun _ _ => rfl) hM
    · intro l g a w' K hp hc hl hgd hM hK
      have eg : a.eval (.tmp 547) = .bool false := hgd.of 547 28 (by kernel_rfl) (preAt hc 38 _ hp (by kernel_rfl))
      rw [if_pos (is_wanted (s := 547) rfl rfl eg)]
      clear eg
      have e550 : a.eval (.tmp 550) = .pointer (some ⟨bb, 4, none⟩) := hgd.of 550 31 (by kernel_rfl) (preAt hc 38 _ hp (by kernel_rfl))
      have kk9 : w'.cell? ⟨bb, 4, none⟩ = some (.slice sa sl sc) := by
        obtain ⟨q, rfl⟩ := hM
        exact k4
      clear hc hp hgd
      unfold Oper.wp; generalize a.eval = ρ at *; go_simp; exact hK g w' (fun _ _ => rfl) hM
    · intro l g a w' K hp hc hl hgd hM hK
      have eg : a.eval (.tmp 547) = .bool false := hgd.of 547 28 (by kernel_rfl) (preAt hc 38 _ hp (by kernel_rfl))
      rw [if_pos (is_wanted (s := 547) rfl rfl eg)]
      clear eg
      have e49 : a.eval (.tmp 49) = .pointer (some ⟨lb, 0, none⟩) := (hgd.old 49 (by kernel_rfl)).trans ((hF.eval f (by omega)).trans h49)
      clear hc hp hgd
      unfold Oper.wp; generalize a.eval = ρ at *; go_simp; exact hK g w' (fun _ _ => rfl) hM
    · intro l g a w' K hp hc hl hgd hM hK
      have eg : a.eval (.tmp 547) = .bool false := hgd.of 547 28 (by kernel_rfl) (preAt hc 38 _ hp (by kernel_rfl))
      rw [if_pos (is_wanted (s := 547) rfl rfl eg)]
      clear eg
      have e552 : a.eval (.tmp 552) = .pointer (some ⟨lb, 4, none⟩) := hgd.of 552 33 (by kernel_rfl) (preAt hc 38 _ hp (by kernel_rfl))
      have kk9 : w'.cell? ⟨lb, 4, none⟩ = some (.slice ta sl tc) := by
        obtain ⟨q, rfl⟩ := hM
        exact l4
      clear hc hp hgd
      unfold Oper.wp; generalize a.eval = ρ at *; go_simp; exact hK g w' (fun _ _ => rfl) hM
    · intro l g a w' K hp hc hl hgd hM hK
      have eg : a.eval (.tmp 547) = .bool false := hgd.of 547 28 (by kernel_rfl) (preAt hc 38 _ hp (by kernel_rfl))
      rw [if_pos (is_wanted (s := 547) rfl rfl eg)]
      clear eg
      have e551 : a.eval (.tmp 551) = .slice sa sl sc := hgd.of 551 32 (by kernel_rfl) (preAt hc 38 _ hp (by kernel_rfl))
      have e553 : a.eval (.tmp 553) = .slice ta sl tc := hgd.of 553 34 (by kernel_rfl) (preAt hc 38 _ hp (by kernel_rfl))
      have ef : ∀ k, a.eval (.func k) = .func (.func k) #[] #[] := fun _ => rfl
      obtain ⟨q, hq⟩ := hM
      have HC := H6.out q
      rw [← hq] at HC
      have FIN : Hid (∀ k, K (a.put (some 554) (.bool true)) (w'.drewN k)) := fun k => hK g (w'.drewN k) (fun _ _ => rfl) ⟨q + k, by rw [hq]; exact drewN_add _ _ _⟩
      clear hK hc hp hgd hq
      unfold Oper.wp; generalize hρ : a.eval = ρ at *; go_simp
      refine Calls.mono HC ?_
      rintro e w'' ⟨rfl, k, rfl⟩
      exact FIN.out k
    · intro l g a w' K hp hc hl hgd hM hK
      have eg : a.eval (.tmp 547) = .bool false := hgd.of 547 28 (by kernel_rfl) (preAt hc 38 _ hp (by kernel_rfl))
      rw [if_pos (is_wanted (s := 547) rfl rfl eg)]
      clear eg
      have e554 : a.eval (.tmp 554) = .bool true := hgd.of 554 35 (by kernel_rfl) (preAt hc 38 _ hp (by kernel_rfl))
      clear hc hp hgd
      unfold Oper.wp; generalize a.eval = ρ at *; go_simp; exact hK g w' (fun _ _ => rfl) hM
    · intro l g a w' K hp hc hl hgd hM hK
      rw [if_pos (no_guard rfl)]
      have e547 : a.eval (.tmp 547) = .bool false := hgd.of 547 28 (by kernel_rfl) (preAt hc 38 _ hp (by kernel_rfl))
      have e555 : a.eval (.tmp 555) = .bool false := hgd.of 555 36 (by kernel_rfl) (preAt hc 38 _ hp (by kernel_rfl))
      have ec : ∀ v, a.eval (.const v) = v := fun _ => rfl
      clear hc hp hgd
      unfold Oper.wp; generalize a.eval = ρ at *; go_simp; exact hK g w' (fun _ _ => rfl) hM
  · intro l g a w' hl hgd hM
    rw [hF.of a (hgd.sz.trans (hF.size f)) (hgd.df.trans (hF.df f))]
    obtain ⟨q, rfl⟩ := hM
    have hwd := HWD.out
    rw [hwd]
    have e : w.drew.drewN q = w.drewN (1 + q) := drewN_add w 1 q
    rw [e]
    refine HQ.out _ _ (fun s hs hw => ?_) ?_
    · exact (hgd.old s hw).trans (hF.eval f hs)
    · exact hgd.of 556 37 (by kernel_rfl) (hl 37 (show 37 < 38 by omega))
end Go.Proofs.YbulkexmzaGreat
