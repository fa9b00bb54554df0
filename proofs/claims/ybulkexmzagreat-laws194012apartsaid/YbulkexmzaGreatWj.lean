/-
  The law from region 75 to its end.
-/
import Derived.Test.YbulkexmzaGreatWi
namespace Go.Proofs.YbulkexmzaGreat
open Go.RowKit
attribute [local go_sem] fup_at
set_option maxHeartbeats 4000000 in
set_option maxRecDepth 100000 in
theorem c79 {F : (Nat → Value) → Act} (hF : Fr 559 F) {X : Ain} (hX : Aok X) {w0 w : World} {ra : Option Addr} {rb ro rc : Nat} {ba : Nat → Option Addr} {bc bb bo : Nat → Nat} (hA : Arg w0 X ra rb ro ba bc bb bo) {E : Lab → Nat} {B : Lab → Option Lb} {al want : ByteArray} {fa : Option Addr} {fc : Nat} {f : Nat → Value} {Q : Exit → Act → World → Prop}
    (hC : Chk w0 w E B X al want (.slice fa X.N fc))
    (h0 : f 0 = .slice ra X.N rc) (h10 : f 10 = .pointer (some ⟨E (0, 1, 0, 0), 0, none⟩)) (h11 : f 11 = .string want) (h12 : f 12 = .pointer (some ⟨E (0, 2, 0, 0), 0, none⟩)) (h13 : f 13 = .slice (some ⟨E (0, 3, 0, 0), 0, none⟩) X.N X.N) (h14 : f 14 = .slice (some ⟨E (0, 4, 0, 0), 0, none⟩) X.N X.N) (h15 : f 15 = .slice (some ⟨E (0, 5, 0, 0), 0, none⟩) X.N X.N) (h16 : f 16 = .slice (some ⟨E (0, 6, 0, 0), 0, none⟩) X.N X.N)
    (h32 : f 32 = .slice fa X.N fc)
    (hQ : ∀ y w' E' B', Sg w0 w' E' B' → Q .normal (F y) w') :
    (hd1 ((Ybaz.f3.body.bind (codeAt 79)).getD .skip)).wp Ybaz.prog Q (F f) w := by
  conv => arg 2; whnf
  have hget := hF.get
  have hmk := hF.up
  have HQ : Hid _ := hQ
  have HX : Hid (Aok X) := hX
  have HC : Hid (Chk w0 w E B X al want (.slice fa X.N fc)) := hC
  have HA : Hid (Arg w0 X ra rb ro ba bc bb bo) := hA
  have hNm := hX.N
  clear hQ hX hA hC
  refine wp_seq_hid (fun K HK => ?_)
  go_wp2
  refine HK.out _ _ ?_
  clear HK
  refine wp_block ?_
  refine wp_loop_ghost_k (fun g a w => ∃ y, a = F y ∧ ∃ i E' B', g + i = X.N ∧ (∀ s, s < 33 → y s = f s) ∧ y 312 = .int .i64 (X.N : Nat) ∧ y 313 = .int .i64 (i : Nat) ∧ Sg w0 w E' B' ∧ (∀ l : Lab, l.1 < 40 → E' l = E l) ∧ (∀ l : Lab, l.1 < 40 → B' l = B l)) X.N
    ⟨_, rfl, 0, E, B, rfl, fun s hs => by
      simp only [fup_at]
      repeat rw [if_neg (by omega)], by simp [fup_at], by simp [fup_at], HC.out.sg, fun _ _ => rfl, fun _ _ => rfl⟩ ?_
  rintro g _ w1 ⟨y, rfl, i, E', B', hg, hy, y312, y313, hS, hE, hB⟩ J K3 hJk hK3
  have HJk : Hid (∀ g a w, (∃ y, a = F y ∧ ∃ i E' B', g + i = X.N ∧ (∀ s, s < 33 → y s = f s) ∧ y 312 = .int .i64 (X.N : Nat) ∧ y 313 = .int .i64 (i : Nat) ∧ Sg w0 w E' B' ∧ (∀ l : Lab, l.1 < 40 → E' l = E l) ∧ (∀ l : Lab, l.1 < 40 → B' l = B l)) → J g a w) := hJk
  have HK3 : Hid (∀ a' w', Handed J g a' w' → K3 a' w') := hK3
  have HS : Hid (Sg w0 w1 E' B') := hS
  have HE : Hid (∀ l : Lab, l.1 < 40 → E' l = E l) := hE
  have HB : Hid (∀ l : Lab, l.1 < 40 → B' l = B l) := hB
  have HY : Hid (∀ s, s < 33 → y s = f s) := hy
  clear hJk hK3 hS hE hB hy
  refine wp_seq_hid (fun K4 HK4 => ?_)
  go_wp2
  refine HK4.out _ _ ?_
  clear HK4
  refine wp_seq_hid (fun K4 HK4 => ?_)
  refine hF.cond (by omega) rfl (fun hh => ?_) (fun hh => ?_)
  · have hi : i < X.N := by simpa using hh
    clear hh
    go_wp2
    refine HK4.out _ _ ?_
    clear HK4
    have z : ∀ a, E' (0, a, 0, 0) = E (0, a, 0, 0) := fun a => HE.out _ (by simp)
    have yy : ∀ s, s < 33 → (fup y 314 (.bool true)) s = f s := fun s hs => by
      simp only [fup_at]; rw [if_neg (by omega)]; exact HY.out s hs
    refine wp_seq_hid (fun K4 HK4 => ?_)
    refine c81 hF HX.out HA.out (i := i) (rc := rc) (fa := fa) (fc := fc) hi (HC.out.keep HS.out HE.out HB.out) ?_ ?_ ?_ ?_ ?_ ?_ ?_ ?_ ?_ (by simp [fup_at, y313]) ?_
    · exact (yy 0 (by omega)).trans h0
    · rw [z]; exact (yy 10 (by omega)).trans h10
    · exact (yy 11 (by omega)).trans h11
    · rw [z]; exact (yy 12 (by omega)).trans h12
    · rw [z]; exact (yy 13 (by omega)).trans h13
    · rw [z]; exact (yy 14 (by omega)).trans h14
    · rw [z]; exact (yy 15 (by omega)).trans h15
    · rw [z]; exact (yy 16 (by omega)).trans h16
    · exact (yy 32 (by omega)).trans h32
    · intro y6 w6 E6 B6 hy6 hS6 hE6 hB6
      refine HK4.out _ _ ?_
      clear HK4
      have z312 : y6 312 = .int .i64 (X.N : Nat) := (hy6 312 (by omega) (by omega)).trans (by simp [fup_at, y312])
      have z313 : y6 313 = .int .i64 (i : Nat) := (hy6 313 (by omega) (by omega)).trans (by simp [fup_at, y313])
      have HY6 : Hid (∀ s, s < 33 → y6 s = f s) := fun s hs => by
        rw [hy6 s (by omega) (by omega)]
        simp only [fup_at]; repeat rw [if_neg (by omega)]
        exact HY.out s hs
      clear hy6
      go_wp2
      refine HK3.out _ _ ⟨g - 1, by omega, HJk.out _ _ _ ⟨_, rfl, i + 1, E6, B6, by omega, fun s hs => ?_, by simp [fup_at, z312], by simp [fup_at], hS6, fun l hl => (hE6 l hl).trans (HE.out l hl), fun l hl => (hB6 l hl).trans (HB.out l hl)⟩⟩
      simp only [fup_at]; repeat rw [if_neg (by omega)]
      exact HY6.out s hs
  · have hi : i = X.N := by
      have : ¬ i < X.N := by simpa using hh
      omega
    subst hi
    clear hh HK3 HJk HK4
    go_wp2
    exact HQ.out _ _ E' B' HS.out
theorem Bst.keep8 {w0 w w' : World} {E E' : Lab → Nat} {B B' : Lab → Option Lb} {X : Ain} {al : ByteArray} {i : Nat} (h : Bst w0 w E B X al i) (hS : Sg w0 w' E' B') (he : ∀ l : Lab, l ≠ (0, 8, 0, 0) → E' l = E l) (hb : ∀ l : Lab, l ≠ (0, 8, 0, 0) → B' l = B l) : Bst w0 w' E' B' X al i := by
  refine ⟨hS, by rw [hb _ (by simp)]; exact h.g1, ?_, ?_, ?_, ?_, ?_, fun j hj => ?_⟩
  · obtain ⟨Dp, v, cap, h1, h2, h3, h4⟩ := h.g2
    refine ⟨Dp, v, cap, by rw [hb _ (by simp)]; exact h1, h2, h3, (h4.congr (he _ (by simp)) (hb _ (by simp))).qcongr (fun t u ht => ?_)⟩
    rw [he _ (by simp)]
  · obtain ⟨pv, h1, h2⟩ := h.g3
    refine ⟨pv, by rw [hb _ (by simp)]; exact h1, fun j hj => ?_⟩
    obtain ⟨cap, h3⟩ := h2 j hj
    refine ⟨cap, (h3.congr (he _ (by simp)) (hb _ (by simp))).qcongr (fun t u ht => ?_)⟩
    rw [he _ (by simp)]
  · obtain ⟨sv, h1, h2⟩ := h.g4
    exact ⟨sv, by rw [hb _ (by simp)]; exact h1, fun j hj => by rw [he _ (by simp)]; exact h2 j hj⟩
  · obtain ⟨sv, h1, h2⟩ := h.g5
    exact ⟨sv, by rw [hb _ (by simp)]; exact h1, fun j hj => by rw [he _ (by simp)]; exact h2 j hj⟩
  · obtain ⟨sv, h1, h2⟩ := h.g6
    exact ⟨sv, by rw [hb _ (by simp)]; exact h1, fun j hj => by unfold Pin.rv; rw [he _ (by simp)]; exact h2 j hj⟩
  · obtain ⟨h1, h2⟩ := h.fo j hj
    have n8 : ∀ l : Lab, l.1 ≠ 0 → l ≠ (0, 8, 0, 0) := fun l h e => h (by rw [e])
    refine ⟨h1.all (fun l h _ => he l (n8 l h.1)) (fun l h _ => hb l (n8 l h.1)), ?_⟩
    unfold Pin.rv at h2 ⊢
    rw [he _ (by simp), he _ (by simp)]
    exact h2.all (fun l h _ => hb l (n8 l h))
theorem Bst.pst {w0 w : World} {E : Lab → Nat} {B : Lab → Option Lb} {X : Ain} {al : ByteArray} (h : Bst w0 w E B X al X.N) : Pst B E X.pin al := by
  obtain ⟨Dp, v, cap, h1, h2, h3, h4⟩ := h.g2
  exact ⟨8, Dp, v, cap, by omega, h1, h2, h3, h4⟩
theorem Bst.pgs {w0 w : World} {E : Lab → Nat} {B : Lab → Option Lb} {X : Ain} {al : ByteArray} (want : ByteArray) (h : Bst w0 w E B X al X.N) : Pgs w0 w E B E B X.pin want 0 :=
  ⟨h.sg, fun _ _ => rfl, fun _ _ => rfl, fun _ hi => absurd hi (Nat.not_lt_zero _), fun i _ hi => ⟨(h.fo i hi).1.fx, (h.fo i hi).1.bs, (h.fo i hi).1.blk, (h.fo i hi).2⟩⟩
theorem Pgs.chk {w0 w w' : World} {E0 E : Lab → Nat} {B0 B : Lab → Option Lb} {X : Ain} {al want : ByteArray} {fv : Value} {cap8 : Nat} (hb : Bst w0 w E0 B0 X al X.N) (h8 : Slg E0 B0 (0, 8, 0, 0) 56 X.N cap8 (fun j u => u = .pointer (some ⟨E0 (1, j, 0, 0), 0, none⟩)) fv) (h : Pgs w0 w' E0 B0 E B X.pin want X.N) : Chk w0 w' E B X al want fv := by
  have e : ∀ a b c d, a ≠ 7 → a ≠ 8 → a ≠ 11 → E (a, b, c, d) = E0 (a, b, c, d) := fun a b c d h1 h2 h3 => h.he _ (by simp only; omega)
  have f : ∀ a b c d, a ≠ 1 → a ≠ 7 → a ≠ 8 → a ≠ 10 → a ≠ 11 → B (a, b, c, d) = B0 (a, b, c, d) := fun a b c d h0 h1 h2 h3 h4 => h.hb _ (by simp only; omega)
  have e1 : ∀ j, E (1, j, 0, 0) = E0 (1, j, 0, 0) := fun j => e _ _ _ _ (by omega) (by omega) (by omega)
  have hrv : ∀ j, X.pin.rv E j = X.pin.rv E0 j := fun j => by unfold Pin.rv; rw [e _ _ _ _ (by omega) (by omega) (by omega)]
  refine ⟨h.sg, by rw [f _ _ _ _ (by omega) (by omega) (by omega) (by omega) (by omega)]; exact hb.g1, ?_, ?_, ?_, ?_, ?_, ?_, fun i hi => ?_, fun i hi => ?_, fun i hi => ?_⟩
  · obtain ⟨Dp, v, cap, h1, h2, h3, h4⟩ := hb.g2
    refine ⟨Dp, v, cap, by rw [f _ _ _ _ (by omega) (by omega) (by omega) (by omega) (by omega)]; exact h1, h2, h3, ?_⟩
    simp only [e1]
    exact h4.congr (e _ _ _ _ (by omega) (by omega) (by omega)) (f _ _ _ _ (by omega) (by omega) (by omega) (by omega) (by omega))
  · obtain ⟨pv, h1, h2⟩ := hb.g3
    refine ⟨pv, by rw [f _ _ _ _ (by omega) (by omega) (by omega) (by omega) (by omega)]; exact h1, fun j hj => ?_⟩
    obtain ⟨cap, h3⟩ := h2 j hj
    have e10 : ∀ t, E (10, j, t, 0) = E0 (10, j, t, 0) := fun t => e _ _ _ _ (by omega) (by omega) (by omega)
    simp only [e10]
    exact ⟨cap, h3.congr (e _ _ _ _ (by omega) (by omega) (by omega)) (f _ _ _ _ (by omega) (by omega) (by omega) (by omega) (by omega))⟩
  · obtain ⟨sv, h1, h2⟩ := hb.g4
    exact ⟨sv, by rw [f _ _ _ _ (by omega) (by omega) (by omega) (by omega) (by omega)]; exact h1, fun j hj => by rw [e _ _ _ _ (by omega) (by omega) (by omega)]; exact h2 j hj⟩
  · obtain ⟨sv, h1, h2⟩ := hb.g5
    exact ⟨sv, by rw [f _ _ _ _ (by omega) (by omega) (by omega) (by omega) (by omega)]; exact h1, fun j hj => by rw [e _ _ _ _ (by omega) (by omega) (by omega)]; exact h2 j hj⟩
  · obtain ⟨sv, h1, h2⟩ := hb.g6
    exact ⟨sv, by rw [f _ _ _ _ (by omega) (by omega) (by omega) (by omega) (by omega)]; exact h1, fun j hj => by rw [hrv]; exact h2 j hj⟩
  · simp only [e1]
    exact ⟨cap8, h8.congr (e _ _ _ _ (by omega) (by omega) (by omega)) (f _ _ _ _ (by omega) (by omega) (by omega) (by omega) (by omega))⟩
  · rw [hrv]; exact h.dn i hi hi
  · have hs := (hb.fo i hi).1.sn
    obtain ⟨D, h1, h2⟩ := hs.s3
    obtain ⟨T, h3, h4⟩ := hs.s4
    exact ⟨⟨D, by rw [f _ _ _ _ (by omega) (by omega) (by omega) (by omega) (by omega)]; exact h1, fun j hj => (h2 j hj).step (fun a b ha => e _ _ _ _ (by omega) (by omega) (by omega)) (fun t => e _ _ _ _ (by omega) (by omega) (by omega)) (fun a ha => f _ _ _ _ (by omega) (by omega) (by omega) (by omega) (by omega)) (fun _ _ _ => rfl)⟩, T, by rw [f _ _ _ _ (by omega) (by omega) (by omega) (by omega) (by omega)]; exact h3, h4⟩
  · exact (hb.fo i hi).1.fx.congr (fun t => e _ _ _ _ (by omega) (by omega) (by omega)) (fun x => f _ _ _ _ (by omega) (by omega) (by omega) (by omega) (by omega)) (fun a b => f _ _ _ _ (by omega) (by omega) (by omega) (by omega) (by omega))
set_option maxHeartbeats 4000000 in
set_option maxRecDepth 100000 in
theorem c75 {F : (Nat → Value) → Act} (hF : Fr 559 F) {X : Ain} (hX : Aok X) {w0 w : World} {ra : Option Addr} {rb ro rc : Nat} {ba : Nat → Option Addr} {bc bb bo : Nat → Nat} (hA : Arg w0 X ra rb ro ba bc bb bo) {E : Lab → Nat} {B : Lab → Option Lb} {al want : ByteArray} {f : Nat → Value} {R : Ending → World → Prop}
    (hB : Bst w0 w E B X al X.N)
    (h0 : f 0 = .slice ra X.N rc) (h2 : f 2 = .string al) (h10 : f 10 = .pointer (some ⟨E (0, 1, 0, 0), 0, none⟩)) (h11 : f 11 = .string want) (h12 : f 12 = .pointer (some ⟨E (0, 2, 0, 0), 0, none⟩)) (h13 : f 13 = .slice (some ⟨E (0, 3, 0, 0), 0, none⟩) X.N X.N) (h14 : f 14 = .slice (some ⟨E (0, 4, 0, 0), 0, none⟩) X.N X.N) (h15 : f 15 = .slice (some ⟨E (0, 5, 0, 0), 0, none⟩) X.N X.N) (h16 : f 16 = .slice (some ⟨E (0, 6, 0, 0), 0, none⟩) X.N X.N)
    (hR : ∀ w' E' B', Sg w0 w' E' B' → R (.returned (.bool true)) w') :
    (((Ybaz.f3.body.bind (codeAt 75)).getD .skip)).wp Ybaz.prog (bodyPost Ybaz.prog Ybaz.f3 R) (F f) w := by
  conv => arg 2; whnf
  have hget := hF.get
  have hmk := hF.up
  have HR : Hid (∀ w' E' B', Sg w0 w' E' B' → R (.returned (.bool true)) w') := hR
  have HX : Hid (Aok X) := hX
  have HA : Hid (Arg w0 X ra rb ro ba bc bb bo) := hA
  have HB : Hid (Bst w0 w E B X al X.N) := hB
  have hNm := hX.N
  obtain ⟨Dp, v, cap, hg2, hp1, hp7, hpS⟩ := hB.g2
  obtain ⟨va, vc, rfl, hvc, hva⟩ := hpS.form
  have kp := hB.sg.val hg2 (i := 1) (by omega)
  rw [hp1] at kp
  have hnew : 0 < X.N → ∃ ad, va = some ad ∧ ∀ s u, ((List.range X.N).map (fun t => Value.pointer (some ⟨E (1, t, 0, 0), 0, none⟩)))[s]? = some u → w.cell? (ad.add s) = some u := fun hk0 => by
    refine ⟨_, hva hk0, fun s u hu => ?_⟩
    rw [List.getElem?_map] at hu
    obtain ⟨t, ht, rfl⟩ := Option.map_eq_some_iff.1 hu
    have hs : s < X.N := by have := (List.getElem?_eq_some_iff.1 ht).1; simpa using this
    rw [List.getElem?_range hs] at ht
    injection ht with ht
    subst ht
    obtain ⟨u, h1, h2, _⟩ := hpS.cell hB.sg hs
    rw [add0, h1, h2]
  have hone : ∀ u ∈ (List.range X.N).map (fun t => Value.pointer (some ⟨E (1, t, 0, 0), 0, none⟩)), u.oneCell' = true := fun u hu => by
    obtain ⟨t, _, rfl⟩ := List.mem_map.1 hu
    rfl
  have hz : ∀ s u, ((List.range X.N).map (fun t => Value.pointer (some ⟨E (1, t, 0, 0), 0, none⟩)))[s]? = some u → u = Value.pointer (some ⟨E (1, s, 0, 0), 0, none⟩) := fun s u hu => by
    rw [List.getElem?_map] at hu
    obtain ⟨t, ht, rfl⟩ := Option.map_eq_some_iff.1 hu
    have hs : s < X.N := by have := (List.getElem?_eq_some_iff.1 ht).1; simpa using this
    rw [List.getElem?_range hs] at ht
    injection ht with ht
    subst ht
    rfl
  clear hR hX hA hB hg2 hp1 hp7 hpS hva
  refine wp_seq_hid (fun K HK => ?_)
  go_wp2_with (at_builtin; refine hF.appc (0, 8, 0, 0) ety29 rfl 290 291 rfl rfl (by omega) HB.out.sg _ X.N vc _ (by rfl) (by simp) hnew hone (by omega) (fun s u => u = .pointer (some ⟨E (1, s, 0, 0), 0, none⟩)) hz (fun v' w' hap => ?_))
  refine HK.out _ _ ?_
  clear HK kp hnew hone hz
  obtain ⟨E1, B1, hS1, hE1, hB1, cap8, hsl8⟩ := hap
  obtain ⟨fa, fc, rfl, _, _⟩ := hsl8.form
  have HB1 : Hid (Bst w0 w' E1 B1 X al X.N) := HB.out.keep8 hS1 hE1 hB1
  have z1 : ∀ a, a ≠ 8 → E1 (0, a, 0, 0) = E (0, a, 0, 0) := fun a ha => hE1 _ (fun e => ha (lab4 e).2.1)
  have HSL8 : Hid (Slg E1 B1 (0, 8, 0, 0) 56 X.N cap8 (fun j u => u = .pointer (some ⟨E1 (1, j, 0, 0), 0, none⟩)) (.slice fa X.N fc)) := by
    have e1 : ∀ j, E1 (1, j, 0, 0) = E (1, j, 0, 0) := fun j => hE1 _ (by simp)
    show Slg E1 B1 (0, 8, 0, 0) 56 X.N cap8 (fun j u => u = .pointer (some ⟨E1 (1, j, 0, 0), 0, none⟩)) (.slice fa X.N fc)
    simp only [e1]
    exact hsl8
  have hP := prog_any (want := want) (fun i hi => HX.out.fdk hi) HX.out.N HB1.out.pst (HB1.out.pgs want)
  rw [z1 2 (by omega)] at hP
  have Hz1 : Hid (∀ a, a ≠ 8 → E1 (0, a, 0, 0) = E (0, a, 0, 0)) := z1
  clear hS1 hE1 hB1 hsl8 z1
  refine wp_seq_hid (fun K HK => ?_)
  go_wp2_with (go_at_call 4; refine Calls.mono hP ?_; rintro _ w2 ⟨rfl, E2, B2, hpg⟩; dsimp only)
  refine HK.out _ _ ?_
  clear HK hP
  have hC := Pgs.chk HB1.out HSL8.out hpg
  have HC : Hid (Chk w0 w2 E2 B2 X al want (.slice fa X.N fc)) := hC
  have z : ∀ a, a ≠ 8 → E2 (0, a, 0, 0) = E (0, a, 0, 0) := fun a ha => by rw [hpg.he _ (by simp)]; exact Hz1.out a ha
  obtain ⟨Dp', v, cap', hg2, hp1, hp7, hpS⟩ := hC.g2
  obtain ⟨va', vc', rfl, _, _⟩ := hpS.form
  have kp := hC.sg.val hg2 (i := 1) (by omega)
  have kp7 := hC.sg.val hg2 (i := 7) (by omega)
  rw [hp1, z 2 (by omega)] at kp
  rw [hp7, z 2 (by omega)] at kp7
  have HZ : Hid (∀ a, a ≠ 8 → E2 (0, a, 0, 0) = E (0, a, 0, 0)) := z
  clear hpg hC hg2 hp1 hp7 hpS z
  refine wp_seq_hid (fun K HK => ?_)
  go_wp2
  refine hF.cond (by omega) rfl (fun hh => by simp at hh) (fun hh => ?_)
  clear hh
  go_wp2
  refine HK.out _ _ ?_
  clear HK kp kp7
  refine wp_seq_hid (fun K HK => ?_)
  refine c79 hF HX.out HA.out (rc := rc) (fa := fa) (fc := fc) HC.out ?_ ?_ ?_ ?_ ?_ ?_ ?_ ?_ ?_ ?_
  · simp only [fup_at]; repeat rw [if_neg (by omega)]
    exact h0
  · rw [HZ.out 1 (by omega)]; simp only [fup_at]; repeat rw [if_neg (by omega)]
    exact h10
  · simp only [fup_at]; repeat rw [if_neg (by omega)]
    exact h11
  · rw [HZ.out 2 (by omega)]; simp only [fup_at]; repeat rw [if_neg (by omega)]
    exact h12
  · rw [HZ.out 3 (by omega)]; simp only [fup_at]; repeat rw [if_neg (by omega)]
    exact h13
  · rw [HZ.out 4 (by omega)]; simp only [fup_at]; repeat rw [if_neg (by omega)]
    exact h14
  · rw [HZ.out 5 (by omega)]; simp only [fup_at]; repeat rw [if_neg (by omega)]
    exact h15
  · rw [HZ.out 6 (by omega)]; simp only [fup_at]; repeat rw [if_neg (by omega)]
    exact h16
  · simp [fup_at]
  · intro y6 w6 E6 B6 hS6
    refine HK.out _ _ ?_
    clear HK
    go_wp2
    exact hF.ret (t := 6) (v := .bool true) rfl (by omega) (by simp [fup_at]) (HR.out w6 E6 B6 hS6)
end Go.Proofs.YbulkexmzaGreat
