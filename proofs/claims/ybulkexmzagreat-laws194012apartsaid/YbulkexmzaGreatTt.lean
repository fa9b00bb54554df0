/-
  newDominance (38): its last loop (the tree in preorder and postorder).
-/
import Derived.Test.YbulkexmzaGreatTs
namespace Go.Proofs.YbulkexmzaGreat
open Go.RowKit
attribute [local go_sem] fup_at

def wgt (fc : Nat → Int) (rk : Nat → Nat) (i : Nat) : Nat := if fc i < 0 then 0 else rk (fc i).toNat + 1

/-- What the loop keeps. -/
structure Tl (w0 w : World) (E0 : Nat → Nat) (n : Nat) (nx : Nat → Int) (rk : Nat → Nat) (Pc : Nat → Prop) (f : Nat → Value) (g : Nat) (E : Nat → Nat) (B : Nat → Lb) (fc : Nat → Int) (lp lq lt : Nat) (D : Nat → Value) (tv : Value) : Prop where
  t : Tr w0 w E B n fc nx lp lq lt D tv
  e0 : E 0 = E0 0
  e1 : E 1 = E0 1
  e2 : E 2 = E0 2
  h9 : f 9 = .pointer (some ⟨E0 0, 0, none⟩)
  h42 : f 42 = .slice (some ⟨E0 1, 0, none⟩) (n + 1) (n + 1)
  h43 : f 43 = .slice (some ⟨E0 2, 0, none⟩) (n + 1) (n + 1)
  h47 : f 47 = tv
  fb : ∀ i, i ≤ n → fc i < 0 ∨ ∃ c : Nat, fc i = c ∧ c ≤ n ∧ Pc c
  gm : 2 * sm (wgt fc rk) (n + 1) + lt = g
  lim : lp + g ≤ 100000000000 ∧ lq + g ≤ 100000000000

set_option maxHeartbeats 4000000 in
set_option maxRecDepth 100000 in
theorem t97 {F : (Nat → Value) → Act} (hF : Fr 577 F) {w0 w : World} {E0 : Nat → Nat} {n : Nat} {nx : Nat → Int} {rk : Nat → Nat} {Pc : Nat → Prop} {f : Nat → Value} {R : Ending → World → Prop} {g : Nat}
    (hnx : ∀ c, Pc c → nx c < 0 ∨ ∃ d : Nat, nx c = d ∧ d ≤ n ∧ Pc d ∧ rk d < rk c)
    (hT : ∃ E B fc lp lq lt D tv, Tl w0 w E0 n nx rk Pc f g E B fc lp lq lt D tv) (hR : ∀ w', DomOk w0 w' n (E0 0) → R (.returned (.pointer (some ⟨E0 0, 0, none⟩))) w') :
    ((Ybaz.f38.body.bind (aft 96)).getD .skip).wp Ybaz.prog (bodyPost Ybaz.prog Ybaz.f38 R) (F f) w := by
  conv => arg 2; whnf
  have hget := hF.get
  have hmk := hF.up
  refine wp_seq_hid (fun K HK => ?_)
  refine wp_block ?_
  refine wp_loop_ghost_k (fun g a w => ∃ f, a = F f ∧ ∃ E B fc lp lq lt D tv, Tl w0 w E0 n nx rk Pc f g E B fc lp lq lt D tv) g ⟨f, rfl, hT⟩ ?_
  clear hT w f g
  rintro g _ w ⟨f, rfl, E, B, fc, lp, lq, lt, D, tv, hT⟩ J K1 hJ hK1
  have HJ : Hid (∀ k a' w', (∃ f, a' = F f ∧ ∃ E B fc lp lq lt D tv, Tl w0 w' E0 n nx rk Pc f k E B fc lp lq lt D tv) → J k a' w') := hJ
  have HK1 : Hid (∀ a' w', Handed J g a' w' → K1 a' w') := hK1
  clear hJ hK1
  obtain ⟨c, hs⟩ := hT.t.tr
  obtain ⟨ta, tc, rfl, hta⟩ := hs.form
  have h9 := hT.h9
  have h42 := hT.h42
  have h43 := hT.h43
  have h47 := hT.h47
  have hlim := hT.lim
  have hg := hT.gm
  have HT : Hid (Tl w0 w E0 n nx rk Pc f g E B fc lp lq lt D (.slice ta lt tc)) := hT
  have HS : Hid (Sl E B 8 3 1 lt c (le_ n) (.slice ta lt tc)) := hs
  clear hT hs
  go_wp2
  refine hF.cond (by omega) rfl (fun h0 => ?_) (fun h0 => ?_)
  · have hlt : 0 < lt := by simpa using h0
    clear h0
    obtain ⟨lt, rfl⟩ : ∃ k, lt = k + 1 := ⟨lt - 1, by omega⟩
    obtain rfl := hta (by omega)
    obtain ⟨u, ku, ⟨b, rfl, hb⟩, _⟩ := HS.out.cell HT.out.t.st (by omega) (i := lt) (by omega)
    have HT2 : Hid (Tl w0 w E0 n nx rk Pc f g E B fc lp lq (lt + 1) D (.slice (some ⟨E 8, 0, none⟩) (lt + 1) tc)) := HT.out
    have kfc : w.cell? ⟨E0 1, b, none⟩ = some (.int .i64 (fc b)) := by rw [← HT.out.e1]; exact HT.out.t.st.arr (k := 1) (by omega) HT.out.t.b1 (by omega)
    have kff : w.frozen? ⟨E0 1, b, none⟩ = false := by rw [← HT.out.e1]; exact HT.out.t.st.frz 1 (by omega) b
    have hbz : (b : Int) < (n : Int) + 1 := by omega
    rcases HT.out.fb b hb with hneg | ⟨c', hc', hcn, hP⟩
    · have hd : decide (0 ≤ fc b) = false := by simpa using hneg
      go_wp2
      refine hF.cond (by omega) rfl (fun h0 => by cases h0) (fun h0 => ?_)
      clear h0
      go_wp2
      obtain ⟨cp, h7⟩ := HT.out.t.d7
      obtain ⟨pa, pc, hD7, hpa⟩ := h7.form
      have k4 := HT.out.t.c4
      have k7 := HT.out.t.c7
      rw [hD7] at k7
      rw [HT.out.e0] at k4 k7
      obtain ⟨u, ku, hu⟩ := HT.out.t.st.read 4 (by omega) (i := b) (by rw [HT.out.t.b4]; show b < n + 1; omega)
      have kuf := HT.out.t.st.frz 4 (by omega) b
      have h7' : Hid (Sl E B 6 3 1 lp cp anyInt (D 7)) := h7
      clear h7
      go_still_tail 11, (by kernel_rfl)
      go_upto_region 106 with fail
      have HT3 : Hid (Tr w0 (w.setCell ⟨E 4, b, none⟩ (.int .i64 ((lp : Int) - 1))).drew E B n fc nx lp lq (lt + 1) D (.slice (some ⟨E 8, 0, none⟩) (lt + 1) tc)) := (HT.out.t.put 4 (by omega) (by rw [HT.out.t.b4]; exact ⟨_, rfl⟩)).drew
      clear k4 k7 ku kuf kfc kff h7' hD7
      generalize (w.setCell ⟨E 4, b, none⟩ (.int .i64 ((lp : Int) - 1))).drew = w1 at HT3 ⊢
      obtain ⟨cq, h8⟩ := HT3.out.d8
      obtain ⟨qa, qc, hD8, hqa⟩ := h8.form
      have k8 := HT3.out.c8
      rw [hD8] at k8 h8
      have H8 : Hid (Sl E B 7 3 1 lq cq anyInt (.slice qa lq qc)) := h8
      rw [HT.out.e0] at k8
      clear h8
      have HE0 : Hid (E 0 = E0 0) := HT.out.e0
      go_upto_region 107 with (at_builtin; refine hF.app ety3 rfl 565 567 568 rfl rfl (by omega) (by omega) H8.out (HT3.out.st.alloc _) (by omega) rfl _ rfl [.int .i64 (b : Nat)] rfl (news1 _ _ _) (by simp [Value.oneCell']) (by omega) anyInt (fun i u hi hq => hq) (fun j u hj => ?zz) ?_; (case zz => match j, hj with | 0, hj => simp at hj; exact ⟨_, hj.symm⟩); intro g3 d3 w3 hap; have k8' : w3.cell? ⟨E0 0, 8, none⟩ = some (.slice qa lq qc) := (by rw [← HE0.out, ← hD8]; exact hap.1.valAt (k := 0) (by omega) (by rw [upd_other _ _ (by omega)]; exact HT3.out.b0) (by omega)); have k8f : w3.frozen? ⟨E0 0, 8, none⟩ = false := (by rw [← HE0.out]; exact hap.1.frz 0 (by omega) 8))
      obtain ⟨E2, B2, D2, e0, e1, e2, hT4⟩ := (HT3.out.alloc _).app7 hap
      rw [HE0.out] at hT4
      clear k8 k8' k8f hap H8
      generalize w3.setCell ⟨E0 0, 8, none⟩ (.slice (some ⟨g3, 0, none⟩) (lq + 1) d3) = w4 at hT4 ⊢
      have HT4 : Hid (Tr w0 w4 E2 B2 n fc nx lp (lq + 1) (lt + 1) D2 (.slice (some ⟨E 8, 0, none⟩) (lt + 1) tc)) := hT4
      clear hT4
      have htc : lt + 1 ≤ tc := by
        rcases HS.out with ⟨hv, _⟩ | ⟨hv, _, hle, _⟩
        · cases hv
        · cases hv; exact hle
      go_wp2
      obtain ⟨B3, hT5⟩ := HT4.out.pop
      refine HK1.out _ _ ⟨g - 1, by omega, HJ.out _ _ _ ⟨_, rfl, E2, B3, fc, lp, lq + 1, lt, D2, _, hT5, e0.trans HT.out.e0, e1.trans HT.out.e1, e2.trans HT.out.e2, by simp [fup_at, h9], by simp [fup_at, h42], by simp [fup_at, h43], by simp [fup_at], HT.out.fb, by omega, by omega⟩⟩
    · rw [hc'] at kfc
      have kn : w.cell? ⟨E0 2, c', none⟩ = some (.int .i64 (nx c')) := by rw [← HT.out.e2]; exact HT.out.t.st.arr (k := 2) (by omega) HT.out.t.b2 (by omega)
      have hcz : (c' : Int) < (n : Int) + 1 := by omega
      go_wp2
      refine hF.cond (by omega) rfl (fun h0 => ?_) (fun h0 => by cases h0)
      clear h0
      go_wp2
      obtain ⟨B1, hT1⟩ := HT.out.t.first b (nx c')
      rw [HT.out.e1] at hT1
      obtain ⟨cp, h7⟩ := hT1.d7
      obtain ⟨pa, pc, hD7, hpa⟩ := h7.form
      refine r102 hF hT1 hD7 (b := b) (c := c') (by omega) (by omega) (by omega) (by simp [fup_at, h9, HT.out.e0]) (by simp [fup_at]) (by simp [fup_at]) ?_
      intro x w1 hx hT2
      have x9 : x 9 = .pointer (some ⟨E0 0, 0, none⟩) := (hx 9 (by omega) (by kernel_rfl)).trans (by simp [fup_at, h9])
      have x42 : x 42 = .slice (some ⟨E0 1, 0, none⟩) (n + 1) (n + 1) := (hx 42 (by omega) (by kernel_rfl)).trans (by simp [fup_at, h42])
      have x43 : x 43 = .slice (some ⟨E0 2, 0, none⟩) (n + 1) (n + 1) := (hx 43 (by omega) (by kernel_rfl)).trans (by simp [fup_at, h43])
      have x47 : x 47 = .slice (some ⟨E 8, 0, none⟩) (lt + 1) tc := (hx 47 (by omega) (by kernel_rfl)).trans (by simp [fup_at, h47])
      have x49 : x 49 = .int .i64 (c' : Nat) := (hx 49 (by omega) (by kernel_rfl)).trans (by simp [fup_at])
      clear hx kfc kff kn ku h9 h42 h43 h47
      have HT2 : Hid (Tr w0 w1 E B1 n (upd fc b (nx c')) nx lp lq (lt + 1) D (.slice (some ⟨E 8, 0, none⟩) (lt + 1) tc)) := hT2
      have H7 : Hid (Sl E B1 6 3 1 lp cp anyInt (D 7)) := h7
      have k7 := hT2.c7
      rw [hD7, HT.out.e0] at k7
      have HE0 : Hid (E 0 = E0 0) := HT.out.e0
      have HD7 : Hid (D 7 = .slice pa lp pc) := hD7
      rw [hD7] at h7
      have H7 : Hid (Sl E B1 6 3 1 lp cp anyInt (.slice pa lp pc)) := h7
      clear hT1 hT2 h7 hD7
      go_upto_region 104 with (at_builtin; refine hF.app ety3 rfl 539 541 542 rfl rfl (by omega) (by omega) H7.out (HT2.out.st.alloc _) (by omega) rfl _ rfl [.int .i64 (c' : Nat)] rfl (news1 _ _ _) (by simp [Value.oneCell']) (by omega) anyInt (fun i u hi hq => hq) (fun j u hj => ?zz) ?_; (case zz => match j, hj with | 0, hj => simp at hj; exact ⟨_, hj.symm⟩); intro g3 d3 w3 hap; have k8' : w3.cell? ⟨E0 0, 7, none⟩ = some (.slice pa lp pc) := (by rw [← HE0.out, ← HD7.out]; exact hap.1.valAt (k := 0) (by omega) (by rw [upd_other _ _ (by omega)]; exact HT2.out.b0) (by omega)); have k8f : w3.frozen? ⟨E0 0, 7, none⟩ = false := (by rw [← HE0.out]; exact hap.1.frz 0 (by omega) 7))
      obtain ⟨E2, B2, D2, e0, e1, e2, hT4⟩ := (HT2.out.alloc _).app6 hap
      rw [HE0.out] at hT4
      clear k8' k8f hap H7 k7
      generalize w3.setCell ⟨E0 0, 7, none⟩ (.slice (some ⟨g3, 0, none⟩) (lp + 1) d3) = w4 at hT4 ⊢
      obtain ⟨ct, h8⟩ := hT4.tr
      have H8 : Hid (Sl E2 B2 8 3 1 (lt + 1) ct (le_ n) (.slice (some ⟨E 8, 0, none⟩) (lt + 1) tc)) := h8
      have HT4 : Hid (Tr w0 w4 E2 B2 n (upd fc b (nx c')) nx (lp + 1) lq (lt + 1) D2 (.slice (some ⟨E 8, 0, none⟩) (lt + 1) tc)) := hT4
      clear hT4 h8
      go_wp2_with (at_builtin; refine hF.app ety3 rfl 545 547 548 rfl rfl (by omega) (by omega) H8.out (HT4.out.st.alloc _) (by omega) rfl _ rfl [.int .i64 (c' : Nat)] rfl (news1 _ _ _) (by simp [Value.oneCell']) (by omega) (le_ n) (fun i u hi hq => hq) (fun j u hj => ?zz) ?_; (case zz => match j, hj with | 0, hj => simp at hj; exact ⟨c', hj.symm, hcn⟩); intro g4 d4 w5 hap)
      obtain ⟨E3, B3, f0, f1, f2, hT5⟩ := (HT4.out.alloc _).push hap
      have hw1 : wgt fc rk b = rk c' + 1 := by unfold wgt; rw [if_neg (by omega), hc']; rfl
      have hw2 : wgt (upd fc b (nx c')) rk = upd (wgt fc rk) b (wgt (upd fc b (nx c')) rk b) := by
        funext i
        by_cases e : i = b
        · subst e; rw [upd_same]
        · rw [upd_other _ _ e]; unfold wgt; rw [upd_other _ _ e]
      have hw3 : wgt (upd fc b (nx c')) rk b ≤ rk c' := by
        unfold wgt
        rw [upd_same]
        rcases hnx c' hP with h1 | ⟨d, h1, h2, h3, h4⟩
        · rw [if_pos h1]; omega
        · rw [h1, if_neg (by omega)]; show rk d + 1 ≤ _; omega
      have hw4 := sm_upd (wgt fc rk) (b := b) (n := n + 1) (by omega) (wgt (upd fc b (nx c')) rk b)
      rw [← hw2] at hw4
      refine HK1.out _ _ ⟨2 * sm (wgt (upd fc b (nx c')) rk) (n + 1) + (lt + 1 + 1), by omega, HJ.out _ _ _ ⟨_, rfl, E3, B3, upd fc b (nx c'), lp + 1, lq, lt + 1 + 1, D2, _, hT5, f0.trans (e0.trans HT.out.e0), f1.trans (e1.trans HT.out.e1), f2.trans (e2.trans HT.out.e2), by simp [fup_at, x9], by simp [fup_at, x42], by simp [fup_at, x43], by simp [fup_at], fun i hi => ?_, rfl, by omega⟩⟩
      by_cases e : i = b
      · subst e
        rw [upd_same]
        rcases hnx c' hP with h1 | ⟨d, h1, h2, h3, h4⟩
        · exact .inl h1
        · exact .inr ⟨d, h1, h2, h3⟩
      · rw [upd_other _ _ e]; exact HT.out.fb i hi
  · have hlt : lt = 0 := by simpa using h0
    subst hlt
    go_wp2
    refine HK.out _ _ ?_
    clear HK HK1 HJ
    have hdom := HT.out.t.dom
    rw [HT.out.e0] at hdom
    have HD : Hid (DomOk w0 w n (E0 0)) := hdom
    have HR : Hid (∀ w', DomOk w0 w' n (E0 0) → R (.returned (.pointer (some ⟨E0 0, 0, none⟩))) w') := hR
    clear hR hdom
    go_wp2
    exact hF.ret (t := 6) rfl (by omega) (by simp [fup_at]) (HR.out w HD.out)
end Go.Proofs.YbulkexmzaGreat
