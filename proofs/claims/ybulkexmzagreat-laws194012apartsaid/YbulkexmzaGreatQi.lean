/-
  The law: a function is noted in the tables (regions 69 to 73).
-/
import Derived.Test.YbulkexmzaGreatQh
namespace Go.Proofs.YbulkexmzaGreat
open Go.RowKit
attribute [local go_sem] fup_at
theorem Pin.rv_form (P : Pin) (E : Lab → Nat) (i : Nat) : ∃ pa, P.rv E i = .pointer pa := by
  unfold Pin.rv
  split
  · exact ⟨_, rfl⟩
  · exact ⟨_, rfl⟩
set_option maxHeartbeats 4000000 in
set_option maxRecDepth 100000 in
theorem b69 {F : (Nat → Value) → Act} (hF : Fr 559 F) {X : Ain} (hX : Aok X) {w0 w : World} {E : Lab → Nat} {B : Lab → Option Lb} {al : ByteArray} {i : Nat} {Df f : Nat → Value} {Q : Exit → Act → World → Prop} (hi : i < X.N)
    (hB : Bst w0 w E B X al i) (hP : Fpr E B i (X.fd i)) (hb1 : B (1, i, 0, 0) = some (vals 59 12 Df)) (f1 : Df 1 = .string (pkgn (X.P i % 3))) (f5 : Df 5 = X.pin.rv E i) (f8 : Df 8 = .slice none 0 0) (f9 : Df 9 = .slice none 0 0) (f10 : Df 10 = .slice none 0 0) (f11 : Df 11 = .slice (some ⟨E (2, i, 0, 0), 0, none⟩) (X.n i) (X.n i))
    (h12 : f 12 = .pointer (some ⟨E (0, 2, 0, 0), 0, none⟩)) (h13 : f 13 = .slice (some ⟨E (0, 3, 0, 0), 0, none⟩) X.N X.N) (h14 : f 14 = .slice (some ⟨E (0, 4, 0, 0), 0, none⟩) X.N X.N) (h15 : f 15 = .slice (some ⟨E (0, 5, 0, 0), 0, none⟩) X.N X.N) (h16 : f 16 = .slice (some ⟨E (0, 6, 0, 0), 0, none⟩) X.N X.N)
    (h18 : f 18 = .int .i64 (i : Nat)) (h21 : f 21 = .slice (some ⟨E (2, i, 0, 0), 0, none⟩) (X.n i) (X.n i)) (h23 : f 23 = .slice (some ⟨E (4, i, 0, 0), 0, none⟩) (X.n i) (X.n i)) (h24 : f 24 = .slice (some ⟨E (3, i, 0, 0), 0, none⟩) (X.n i) (X.n i)) (h31 : f 31 = .pointer (some ⟨E (1, i, 0, 0), 0, none⟩))
    (hQ : ∀ y w' E' B', (∀ s, s < 256 → y s = f s) → Bst w0 w' E' B' X al (i + 1) → (∀ l : Lab, l ≠ (5, i, 0, 0) → l ≠ (0, 7, 0, 0) → E' l = E l) → Q .normal (F y) w') :
    (((Ybaz.f3.body.bind (codeAt 69)).getD .skip)).wp Ybaz.prog Q (F f) w := by
  conv => arg 2; whnf
  have hget := hF.get
  have hmk := hF.up
  have HQ : Hid _ := hQ
  have HX : Hid (Aok X) := hX
  have HB : Hid (Bst w0 w E B X al i) := hB
  have HP : Hid (Fpr E B i (X.fd i)) := hP
  have HB1 : Hid (B (1, i, 0, 0) = some (vals 59 12 Df)) := hb1
  have HDF : Hid (Df 1 = .string (pkgn (X.P i % 3)) ∧ Df 5 = X.pin.rv E i ∧ Df 8 = .slice none 0 0 ∧ Df 9 = .slice none 0 0 ∧ Df 10 = .slice none 0 0 ∧ Df 11 = .slice (some ⟨E (2, i, 0, 0), 0, none⟩) (X.n i) (X.n i)) := ⟨f1, f5, f8, f9, f10, f11⟩
  have hnm := hX.n_le hi
  have hNm := hX.N
  obtain ⟨pa, hpa⟩ := X.pin.rv_form E i
  obtain ⟨n, hn⟩ : ∃ n, n = X.n i := ⟨_, rfl⟩
  have HN : Hid (n = X.n i) := hn
  obtain ⟨rv, hg6, hrv⟩ := hB.g6
  obtain ⟨pv, hg3, hpv⟩ := hB.g3
  obtain ⟨sv, hg4, hsv⟩ := hB.g4
  obtain ⟨tv, hg5, htv⟩ := hB.g5
  obtain ⟨Dp, v, cap, hg2, hp1, hp7, hpS⟩ := hB.g2
  obtain ⟨va, vc, rfl, hvc, hva⟩ := hpS.form
  have k5 := hB.sg.val hb1 (i := 5) (by omega)
  rw [f5, hpa] at k5
  have kc := hB.sg.val hg6 hi
  have kf := hB.sg.frz hg6 i
  have HS1 : Hid (Sg w0 (w.setCell ⟨E (0, 6, 0, 0), i, none⟩ (.pointer pa)) E (lup B (0, 6, 0, 0) (some (vals 50 X.N (upd rv i (.pointer pa)))))) := hB.sg.setVal hg6 i (.pointer pa)
  have HG6 : Hid (∀ j, j < i → rv j = X.pin.rv E j) := hrv
  have HG3 : Hid (B (0, 3, 0, 0) = some (vals 39 X.N pv) ∧ ∀ j, j < i → ∃ cap, Slg E B (5, j, 0, 0) 40 (X.n j) cap (fun t u => u = .pointer (some ⟨E (10, j, t, 0), 0, none⟩)) (pv j)) := ⟨hg3, hpv⟩
  have HG4 : Hid (B (0, 4, 0, 0) = some (vals 47 X.N sv) ∧ ∀ j, j < i → sv j = .slice (some ⟨E (3, j, 0, 0), 0, none⟩) (X.n j) (X.n j)) := ⟨hg4, hsv⟩
  have HG5 : Hid (B (0, 5, 0, 0) = some (vals 46 X.N tv) ∧ ∀ j, j < i → tv j = .slice (some ⟨E (4, j, 0, 0), 0, none⟩) (X.n j) (X.n j)) := ⟨hg5, htv⟩
  have HG2 : Hid (B (0, 2, 0, 0) = some (vals 34 8 Dp) ∧ Dp 1 = .slice va i vc ∧ Dp 7 = .string al ∧ Slg E B (0, 7, 0, 0) 56 i cap (fun j u => u = .pointer (some ⟨E (1, j, 0, 0), 0, none⟩)) (.slice va i vc)) := ⟨hg2, hp1, hp7, hpS⟩
  have HPA : Hid (X.pin.rv E i = .pointer pa) := hpa
  rw [← hn] at h21 h23 h24 hnm
  clear hQ hX hB hP hb1 f1 f5 f8 f9 f10 f11 hn hrv hg6 hg3 hpv hg4 hsv hg5 htv hg2 hp1 hp7 hpS hpa
  refine wp_seq_hid (fun K HK => ?_)
  go_wp2
  refine HK.out _ _ ?_
  clear HK k5 kc kf
  generalize w.setCell ⟨E (0, 6, 0, 0), i, none⟩ (.pointer pa) = w1 at HS1 ⊢
  obtain ⟨B1, hB1⟩ : ∃ B1, B1 = lup B (0, 6, 0, 0) (some (vals 50 X.N (upd rv i (.pointer pa)))) := ⟨_, rfl⟩
  rw [← hB1] at HS1
  have b6 : B1 (0, 6, 0, 0) = some (vals 50 X.N (upd rv i (.pointer pa))) := by rw [hB1]; exact lup_same _ _ _
  have HBo : Hid (∀ l : Lab, l ≠ (0, 6, 0, 0) → B1 l = B l) := fun l hl => by rw [hB1, lup_other _ _ hl]
  have HB6 : Hid (B1 (0, 6, 0, 0) = some (vals 50 X.N (upd rv i (.pointer pa)))) := b6
  clear hB1 b6
  -- R70
  have h2b : B1 (2, i, 0, 0) = some (bsr E i (X.n i)) := (HBo.out _ (by simp)).trans HP.out.bs
  have hnew : 0 < n → ∃ ad, (some (⟨E (2, i, 0, 0), 0, none⟩ : Addr)) = some ad ∧ ∀ s u, ((List.range n).map (fun t => Value.pointer (some ⟨E (10, i, t, 0), 0, none⟩)))[s]? = some u → w1.cell? (ad.add s) = some u := fun hk0 => by
    refine ⟨_, rfl, fun s u hu => ?_⟩
    rw [List.getElem?_map] at hu
    obtain ⟨t, ht, rfl⟩ := Option.map_eq_some_iff.1 hu
    have hs : s < n := by have := (List.getElem?_eq_some_iff.1 ht).1; simpa using this
    rw [List.getElem?_range hs] at ht
    injection ht with ht
    subst ht
    rw [add0]
    exact HS1.out.val h2b (i := s) (by rw [← HN.out]; exact hs)
  have hone : ∀ u ∈ (List.range n).map (fun t => Value.pointer (some ⟨E (10, i, t, 0), 0, none⟩)), u.oneCell' = true := fun u hu => by
    obtain ⟨t, _, rfl⟩ := List.mem_map.1 hu
    rfl
  have hz : ∀ s u, ((List.range n).map (fun t => Value.pointer (some ⟨E (10, i, t, 0), 0, none⟩)))[s]? = some u → u = Value.pointer (some ⟨E (10, i, s, 0), 0, none⟩) := fun s u hu => by
    rw [List.getElem?_map] at hu
    obtain ⟨t, ht, rfl⟩ := Option.map_eq_some_iff.1 hu
    have hs : s < n := by have := (List.getElem?_eq_some_iff.1 ht).1; simpa using this
    rw [List.getElem?_range hs] at ht
    injection ht with ht
    subst ht
    rfl
  refine wp_seq_hid (fun K HK => ?_)
  go_wp2_with (at_builtin; refine hF.appc (5, i, 0, 0) ety40 rfl 265 266 rfl rfl (by omega) HS1.out _ n n _ (by rfl) (by simp) hnew hone (by omega) (fun s u => u = .pointer (some ⟨E (10, i, s, 0), 0, none⟩)) hz (fun v' w' hap => ?_); obtain ⟨E2, B2, hS2, hE2, hB2, cap2, hsl2⟩ := hap; obtain ⟨va2, vc2, rfl, hvc2, hva2⟩ := hsl2.form; have hb3' := (hB2 (0, 3, 0, 0) (by simp)).trans ((HBo.out _ (by simp)).trans HG3.out.1); have kc := hS2.val hb3' hi; have kf := hS2.frz hb3' i; rw [hE2 (0, 3, 0, 0) (by simp)] at kc kf)
  refine HK.out _ _ ?_
  clear HK kc kf hnew hone hz h2b
  have hS3 := hS2.setVal hb3' i (.slice va2 n vc2)
  rw [hE2 (0, 3, 0, 0) (by simp)] at hS3
  obtain ⟨B3, hB3⟩ : ∃ B3, B3 = lup B2 (0, 3, 0, 0) (some (vals 39 X.N (upd pv i (.slice va2 n vc2)))) := ⟨_, rfl⟩
  rw [← hB3] at hS3
  have HS3 : Hid (Sg w0 (w'.setCell ⟨E (0, 3, 0, 0), i, none⟩ (.slice va2 n vc2)) E2 B3) := hS3
  have HE2 : Hid (∀ l : Lab, l ≠ (5, i, 0, 0) → E2 l = E l) := hE2
  have HB3 : Hid (∀ l : Lab, l ≠ (5, i, 0, 0) → l ≠ (0, 3, 0, 0) → l ≠ (0, 6, 0, 0) → B3 l = B l) := fun l h1 h2 h3 => by rw [hB3, lup_other _ _ h2, hB2 l h1]; exact HBo.out l h3
  have HB33 : Hid (B3 (0, 3, 0, 0) = some (vals 39 X.N (upd pv i (.slice va2 n vc2)))) := by rw [hB3]; exact lup_same _ _ _
  have HB36 : Hid (B3 (0, 6, 0, 0) = some (vals 50 X.N (upd rv i (.pointer pa)))) := by rw [hB3, lup_other _ _ (by simp), hB2 _ (by simp)]; exact HB6.out
  have HSL5 : Hid (Slg E2 B3 (5, i, 0, 0) 40 n cap2 (fun s u => u = .pointer (some ⟨E (10, i, s, 0), 0, none⟩)) (.slice va2 n vc2)) := hsl2.congr rfl (by rw [hB3]; exact lup_other _ _ (by simp))
  clear hS3 hB3 hS2 hE2 hB2 hsl2 hb3' HS1 HBo HB6
  generalize w'.setCell ⟨E (0, 3, 0, 0), i, none⟩ (.slice va2 n vc2) = w3 at HS3 ⊢
  -- R71
  have b4 : B3 (0, 4, 0, 0) = some (vals 47 X.N sv) := (HB3.out _ (by simp) (by simp) (by simp)).trans HG4.out.1
  have kc := HS3.out.val b4 hi
  have kf := HS3.out.frz b4 i
  have hS4 := HS3.out.setVal b4 i (.slice (some ⟨E (3, i, 0, 0), 0, none⟩) n n)
  have q4 : E2 (0, 4, 0, 0) = E (0, 4, 0, 0) := HE2.out _ (by simp)
  rw [q4] at kc kf hS4
  have HS4 : Hid (Sg w0 (w3.setCell ⟨E (0, 4, 0, 0), i, none⟩ (.slice (some ⟨E (3, i, 0, 0), 0, none⟩) n n)) E2 (lup B3 (0, 4, 0, 0) (some (vals 47 X.N (upd sv i (.slice (some ⟨E (3, i, 0, 0), 0, none⟩) n n)))))) := hS4
  clear hS4 b4 q4
  refine wp_seq_hid (fun K HK => ?_)
  go_wp2
  refine HK.out _ _ ?_
  clear HK kc kf
  generalize w3.setCell ⟨E (0, 4, 0, 0), i, none⟩ (.slice (some ⟨E (3, i, 0, 0), 0, none⟩) n n) = w4 at HS4 ⊢
  obtain ⟨B4, hB4⟩ : ∃ B4, B4 = lup B3 (0, 4, 0, 0) (some (vals 47 X.N (upd sv i (.slice (some ⟨E (3, i, 0, 0), 0, none⟩) n n)))) := ⟨_, rfl⟩
  rw [← hB4] at HS4
  have HB4 : Hid (∀ l : Lab, l ≠ (0, 4, 0, 0) → B4 l = B3 l) := fun l hl => by rw [hB4, lup_other _ _ hl]
  have HB44 : Hid (B4 (0, 4, 0, 0) = some (vals 47 X.N (upd sv i (.slice (some ⟨E (3, i, 0, 0), 0, none⟩) n n)))) := by rw [hB4]; exact lup_same _ _ _
  clear hB4
  -- R72
  have b5 : B4 (0, 5, 0, 0) = some (vals 46 X.N tv) := (HB4.out _ (by simp)).trans ((HB3.out _ (by simp) (by simp) (by simp)).trans HG5.out.1)
  have kc := HS4.out.val b5 hi
  have kf := HS4.out.frz b5 i
  have hS5 := HS4.out.setVal b5 i (.slice (some ⟨E (4, i, 0, 0), 0, none⟩) n n)
  have q5 : E2 (0, 5, 0, 0) = E (0, 5, 0, 0) := HE2.out _ (by simp)
  rw [q5] at kc kf hS5
  have HS5 : Hid (Sg w0 (w4.setCell ⟨E (0, 5, 0, 0), i, none⟩ (.slice (some ⟨E (4, i, 0, 0), 0, none⟩) n n)) E2 (lup B4 (0, 5, 0, 0) (some (vals 46 X.N (upd tv i (.slice (some ⟨E (4, i, 0, 0), 0, none⟩) n n)))))) := hS5
  clear hS5 b5 q5
  refine wp_seq_hid (fun K HK => ?_)
  go_wp2
  refine HK.out _ _ ?_
  clear HK kc kf
  generalize w4.setCell ⟨E (0, 5, 0, 0), i, none⟩ (.slice (some ⟨E (4, i, 0, 0), 0, none⟩) n n) = w5 at HS5 ⊢
  obtain ⟨B5, hB5⟩ : ∃ B5, B5 = lup B4 (0, 5, 0, 0) (some (vals 46 X.N (upd tv i (.slice (some ⟨E (4, i, 0, 0), 0, none⟩) n n)))) := ⟨_, rfl⟩
  rw [← hB5] at HS5
  have HB5 : Hid (∀ l : Lab, l ≠ (0, 5, 0, 0) → B5 l = B4 l) := fun l hl => by rw [hB5, lup_other _ _ hl]
  have HB55 : Hid (B5 (0, 5, 0, 0) = some (vals 46 X.N (upd tv i (.slice (some ⟨E (4, i, 0, 0), 0, none⟩) n n)))) := by rw [hB5]; exact lup_same _ _ _
  clear hB5
  -- R73
  have b2 : B5 (0, 2, 0, 0) = some (vals 34 8 Dp) := by rw [HB5.out _ (by simp), HB4.out _ (by simp), HB3.out _ (by simp) (by simp) (by simp)]; exact HG2.out.1
  have k1 := HS5.out.val b2 (i := 1) (by omega)
  have q2 : E2 (0, 2, 0, 0) = E (0, 2, 0, 0) := HE2.out _ (by simp)
  rw [q2, HG2.out.2.1] at k1
  have HSL7 : Hid (Slg E2 B5 (0, 7, 0, 0) 56 i cap (fun j u => u = .pointer (some ⟨E (1, j, 0, 0), 0, none⟩)) (.slice va i vc)) := HG2.out.2.2.2.congr (HE2.out _ (by simp)) (by rw [HB5.out _ (by simp), HB4.out _ (by simp), HB3.out _ (by simp) (by simp) (by simp)])
  have hgn : ∀ s u, [Value.pointer (some ⟨E (1, i, 0, 0), 0, none⟩)][s]? = some u → u = Value.pointer (some ⟨E (1, i + s, 0, 0), 0, none⟩) := fun s u hu => by
    match s, hu with
    | 0, hu => simp at hu; exact hu.symm
  go_wp2_with (at_builtin; refine hF.appg ety29 rfl 280 282 283 rfl rfl (by omega) (by omega) HSL7.out (HS5.out.alloc _) (by rfl) _ 1 1 [.pointer (some ⟨E (1, i, 0, 0), 0, none⟩)] (by rfl) rfl (fun _ => ⟨_, rfl, news1 _ _ _⟩) (by simp [Value.oneCell']) (by omega) (fun j u => u = .pointer (some ⟨E (1, j, 0, 0), 0, none⟩)) (fun _ _ _ h => h) hgn (fun v' w' hap => ?_); obtain ⟨E6, B6, hS6, hE6, hB6, cap6, hsl6⟩ := hap; obtain ⟨va6, vc6, rfl, hvc6, hva6⟩ := hsl6.form; have hb2' := (hB6 (0, 2, 0, 0) (by simp)).trans b2; have kc := hS6.val hb2' (i := 1) (by omega); have kf := hS6.frz hb2' 1; rw [hE6 (0, 2, 0, 0) (by simp), q2] at kc kf)
  have e6 := hva6 (by omega)
  subst e6
  obtain ⟨va6, hva6'⟩ : ∃ va6, va6 = some (⟨E6 (0, 7, 0, 0), 0, none⟩ : Addr) := ⟨_, rfl⟩
  rw [← hva6'] at hsl6 ⊢
  have hS7 := hS6.setVal hb2' 1 (.slice va6 (i + 1) vc6)
  rw [hE6 (0, 2, 0, 0) (by simp), q2] at hS7
  obtain ⟨B7, hB7⟩ : ∃ B7, B7 = lup B6 (0, 2, 0, 0) (some (vals 34 8 (upd Dp 1 (.slice va6 (i + 1) vc6)))) := ⟨_, rfl⟩
  rw [← hB7] at hS7
  have ee : ∀ l : Lab, l ≠ (5, i, 0, 0) → l ≠ (0, 7, 0, 0) → E6 l = E l := fun l h1 h2 => by rw [hE6 l h2]; exact HE2.out l h1
  have b7 : ∀ l : Lab, l ≠ (0, 2, 0, 0) → l ≠ (0, 7, 0, 0) → B7 l = B5 l := fun l h1 h2 => by rw [hB7, lup_other _ _ h1, hB6 l h2]
  have bb : ∀ l : Lab, l ≠ (5, i, 0, 0) → l.1 ≠ 0 → B7 l = B l := fun l h1 h2 => by
    have nz : ∀ a, l ≠ (0, a, 0, 0) := fun a e => h2 (by rw [e])
    rw [b7 l (nz 2) (nz 7), HB5.out l (nz 5), HB4.out l (nz 4), HB3.out l h1 (nz 3) (nz 6)]
  have b53 : B5 (0, 3, 0, 0) = some (vals 39 X.N (upd pv i (.slice va2 n vc2))) := by rw [HB5.out _ (by simp), HB4.out _ (by simp)]; exact HB33.out
  have b54 : B5 (0, 4, 0, 0) = some (vals 47 X.N (upd sv i (.slice (some ⟨E (3, i, 0, 0), 0, none⟩) n n))) := by rw [HB5.out _ (by simp)]; exact HB44.out
  have b56 : B5 (0, 6, 0, 0) = some (vals 50 X.N (upd rv i (.pointer pa))) := by rw [HB5.out _ (by simp), HB4.out _ (by simp)]; exact HB36.out
  have hrvE : ∀ j, X.pin.rv E6 j = X.pin.rv E j := fun j => by unfold Pin.rv; rw [ee _ (by simp) (by simp)]
  have hnn := HN.out
  refine HQ.out _ _ E6 B7 (fun s hs => ?_) ⟨hS7, ?_, ⟨_, _, cap6, by rw [hB7]; exact lup_same _ _ _, upd_same _ _ _, ?_, ?_⟩, ⟨_, (b7 _ (by simp) (by simp)).trans b53, fun j hj => ?_⟩, ⟨_, (b7 _ (by simp) (by simp)).trans b54, fun j hj => ?_⟩, ⟨_, (b7 _ (by simp) (by simp)).trans HB55.out, fun j hj => ?_⟩, ⟨_, (b7 _ (by simp) (by simp)).trans b56, fun j hj => ?_⟩, fun j hj => ?_⟩ ee
  · simp only [fup_at]
    repeat rw [if_neg (by omega)]
  · rw [b7 _ (by simp) (by simp), HB5.out _ (by simp), HB4.out _ (by simp), HB3.out _ (by simp) (by simp) (by simp)]; exact HB.out.g1
  · rw [upd_other _ _ (by omega)]; exact HG2.out.2.2.1
  · refine (hsl6.congr rfl (by rw [hB7]; exact lup_other _ _ (by simp))).qcongr (fun t u _ => ?_)
    rw [ee _ (by simp) (by simp)]
  · by_cases e : j = i
    · subst e
      rw [upd_same, ← hnn]
      refine ⟨cap2, (HSL5.out.congr (hE6 _ (by simp)) ?_).qcongr (fun t u _ => ?_)⟩
      · rw [b7 _ (by simp) (by simp), HB5.out _ (by simp), HB4.out _ (by simp)]
      · rw [ee _ (by simp) (by simp)]
    · rw [upd_other _ _ e]
      obtain ⟨cap, h1⟩ := HG3.out.2 j (by omega)
      have n5 : ((5, j, 0, 0) : Lab) ≠ (5, i, 0, 0) := fun h => e (lab4 h).2.1
      refine ⟨cap, (h1.congr (ee _ n5 (by simp)) (bb _ n5 (by simp))).qcongr (fun t u _ => ?_)⟩
      rw [ee _ (by simp) (by simp)]
  · rw [ee _ (by simp) (by simp)]
    by_cases e : j = i
    · subst e; rw [upd_same, hnn]
    · rw [upd_other _ _ e]; exact HG4.out.2 j (by omega)
  · rw [ee _ (by simp) (by simp)]
    by_cases e : j = i
    · subst e; rw [upd_same, hnn]
    · rw [upd_other _ _ e]; exact HG5.out.2 j (by omega)
  · rw [hrvE]
    by_cases e : j = i
    · subst e; rw [upd_same, HPA.out]
    · rw [upd_other _ _ e]; exact HG6.out j (by omega)
  · rw [hrvE, ee _ (by simp) (by simp)]
    have ne5 : ∀ l : Lab, Lfp l → l ≠ (5, i, 0, 0) ∧ l ≠ (0, 7, 0, 0) := fun l h => ⟨fun e => h.2.2.1 (by rw [e]), fun e => h.1 (by rw [e])⟩
    by_cases e : j = i
    · subst e
      refine ⟨HP.out.all (fun l h _ => ee l (ne5 l h).1 (ne5 l h).2) (fun l h _ => bb l (ne5 l h).1 h.1), ⟨12, Df, by omega, (bb _ (by simp) (by simp)).trans HB1.out, HDF.out⟩⟩
    · obtain ⟨h1, h2⟩ := HB.out.fo j (by omega)
      exact ⟨h1.all (fun l h _ => ee l (ne5 l h).1 (ne5 l h).2) (fun l h _ => bb l (ne5 l h).1 h.1), h2.all (fun l h hl => bb l (fun h' => e (by rw [← hl, h'])) h)⟩
end Go.Proofs.YbulkexmzaGreat
