/-
  newDominance (38): from region 29 on: the walk.
-/
import Derived.Test.YbulkexmzaGreatUj
namespace Go.Proofs.YbulkexmzaGreat
open Go.RowKit
attribute [local go_sem] fup_at

/-- The sums so far. -/
structure Js (p0 pf : Nat → Nat) (le i : Nat) : Prop where
  mono : ∀ k, k < i → pf k ≤ pf (k + 1)
  lim : ∀ k, k ≤ i → pf k ≤ le
  top : pf i = le
  le : le ≤ p0 i
theorem Dh.kev {E E' : Nat → Nat} {n : Nat} {f : Nat → Value} (h : Dh E n f) (he : ∀ k, k ≠ 15 → E' k = E k) : Dh E' n f := by
  have e : ∀ k, k < 15 → E k = E' k := fun k hk => (he k (by omega)).symm
  obtain ⟨h7, h8, h9, h10, h11, h12, h13⟩ := h
  rw [e 12 (by omega)] at h9
  rw [e 0 (by omega)] at h10
  rw [e 1 (by omega)] at h11
  rw [e 2 (by omega)] at h12
  rw [e 3 (by omega)] at h13
  exact ⟨h7, h8, h9, h10, h11, h12, h13⟩

set_option maxHeartbeats 4000000 in
set_option maxRecDepth 100000 in
theorem b32 {F : (Nat → Value) → Act} (hF : Fr 577 F) {w0 w : World} {E : Nat → Nat} {B : Nat → Lb} {n m le i L0 pb qb : Nat} {pf p0 q0 : Nat → Nat} {pst : List Nat} {D f : Nat → Value} {Q : Exit → Act → World → Prop}
    (hPr : Pr w0 n L0 pb qb p0 q0) (hL : L0 ≤ 100000000) (hn : n ≤ 100000) (hi : i < n)
    (hD : Dp w0 w E B n m pst D pf le) (hJ : Js p0 pf le i) (hf : Dh E n f) (h1 : f 1 = .slice (some ⟨pb, 0, none⟩) (n + 1) (n + 1)) (h2 : f 2 = .slice (some ⟨qb, 0, none⟩) L0 L0) (h140 : f 140 = .int .i64 (n : Nat)) (h141 : f 141 = .int .i64 (i : Nat))
    (hQ : ∀ x w' E' B' D' pf' le', (∀ k, k ≠ 15 → E' k = E k) → Dp w0 w' E' B' n m pst D' pf' le' → Js p0 pf' le' (i + 1) → Dh E' n x → x 1 = .slice (some ⟨pb, 0, none⟩) (n + 1) (n + 1) → x 2 = .slice (some ⟨qb, 0, none⟩) L0 L0 → x 140 = .int .i64 (n : Nat) → x 141 = .int .i64 ((i + 1 : Nat) : Int) → Q .normal (F x) w') :
    ((Ybaz.f38.body.bind (codeAt 32)).getD .skip).wp Ybaz.prog Q (F f) w := by
  conv => arg 2; whnf
  have hget := hF.get
  have hmk := hF.up
  have HQ : Hid (∀ x w' E' B' D' pf' le', (∀ k, k ≠ 15 → E' k = E k) → Dp w0 w' E' B' n m pst D' pf' le' → Js p0 pf' le' (i + 1) → Dh E' n x → x 1 = .slice (some ⟨pb, 0, none⟩) (n + 1) (n + 1) → x 2 = .slice (some ⟨qb, 0, none⟩) L0 L0 → x 140 = .int .i64 (n : Nat) → x 141 = .int .i64 ((i + 1 : Nat) : Int) → Q .normal (F x) w') := hQ
  clear hQ
  have HD : Hid (Dp w0 w E B n m pst D pf le) := hD
  have HF : Hid (Dh E n f) := hf
  have HJS : Hid (Js p0 pf le i) := hJ
  have k5 := hD.st.valAt (k := 12) (by omega) hD.b12 (i := 5) (by omega)
  rw [hD.d5] at k5
  have kp : w.cell? ⟨E 14, i, none⟩ = some (.int .i64 (le : Nat)) := by rw [hD.st.arr (k := 14) (by omega) hD.b14 (i := i) (by omega), hJ.top]
  obtain ⟨u, kq, _⟩ := hD.st.read 14 (by omega) (i := i + 1) (by rw [hD.b14]; show i + 1 < n + 1; omega)
  have kqf := hD.st.frz 14 (by omega) (i + 1)
  have hwr : IntKind.i64.wrap ((i : Int) + 1) = (i : Int) + 1 := by rw [IntKind.wrap_i64]; omega
  have hb1n : ¬ ((i : Int) + 1 < 0) := by omega
  have hb1p : (0 : Int) ≤ (i : Int) + 1 := by omega
  have hb1t : ((i : Int) + 1).toNat = i + 1 := by omega
  have hbz : (i : Int) < (n : Int) + 1 := by omega
  have hbzz : (i : Int) < (n : Int) := by omega
  have h9 := hf.h9
  clear hD hf hJ
  refine wp_seq_hid (fun K5 HK5 => ?_)
  refine wp_block ?_
  refine wp_seq_hid (fun K HK => ?_)
  go_wp2
  refine HK.out _ _ ?_
  clear HK K
  refine wp_seq_hid (fun K HK => ?_)
  go_still_tail 13, (by kernel_rfl)
  go_wp2
  refine HK.out _ _ ?_
  clear HK K k5 kp kq kqf h9
  obtain ⟨B1, hD1⟩ := HD.out.drew.set (i + 1) le
  have hf := HF.out
  have HD1 : Hid (Dp w0 (w.drew.setCell ⟨E 14, i + 1, none⟩ (.int .i64 (le : Nat))) E B1 n m pst D (upd pf (i + 1) le) le) := hD1
  have HJ1 : Hid ((∀ k, k ≤ i → upd pf (i + 1) le k = pf k) ∧ upd pf (i + 1) le (i + 1) = le) := ⟨fun k hk => upd_other _ _ (by omega), upd_same _ _ _⟩
  clear hD1
  generalize upd pf (i + 1) le = pf1 at HD1 HJ1
  have hw1 : (w.setCell ⟨E 14, i + 1, none⟩ (.int .i64 (le : Nat))).drew = w.drew.setCell ⟨E 14, i + 1, none⟩ (.int .i64 (le : Nat)) := rfl
  try rw [hw1]
  clear hw1
  generalize w.drew.setCell ⟨E 14, i + 1, none⟩ (.int .i64 (le : Nat)) = w1 at HD1 ⊢
  have ka := old_cell HD1.out.st.since (hPr.pc i (by omega))
  have kb := old_cell HD1.out.st.since (hPr.pc (i + 1) (by omega))
  have hpq := hPr.mono i hi
  have hqL := hPr.lim (i + 1) (by omega)
  obtain ⟨p, hp⟩ : ∃ p, p = p0 i := ⟨_, rfl⟩
  obtain ⟨q, hq⟩ : ∃ q, q = p0 (i + 1) := ⟨_, rfl⟩
  rw [← hp] at ka hpq
  rw [← hq] at kb hpq hqL
  have HPQ : Hid (p = p0 i ∧ q = p0 (i + 1)) := ⟨hp, hq⟩
  clear hp hq
  refine wp_seq_hid (fun K HK => ?_)
  go_still (by kernel_rfl)
  refine HK.out _ _ ?_
  clear HK K ka kb hb1n hb1p hb1t
  obtain ⟨ad, had⟩ : ∃ ad : Option Addr, ad = if L0 = p then some ⟨qb, 0, none⟩ else some ⟨qb, p, none⟩ := ⟨_, rfl⟩
  have had' : p < q → ad = some ⟨qb, p, none⟩ := fun h => by rw [had, if_neg (by omega)]
  rw [← had]
  clear had
  refine wp_block ?_
  refine wp_loop_ghost_k (fun g a w => ∃ f, a = F f ∧ ∃ E' B' D' pf' le' j, g + j = q - p ∧ (∀ k, k ≠ 15 → E' k = E k) ∧ Dp w0 w E' B' n m pst D' pf' le' ∧ ((∀ k, k ≤ i → pf' k = pf k) ∧ pf' (i + 1) = le' ∧ le ≤ le' ∧ le' ≤ p0 i + j) ∧ Dh E' n f ∧ f 1 = .slice (some ⟨pb, 0, none⟩) (n + 1) (n + 1) ∧ f 2 = .slice (some ⟨qb, 0, none⟩) L0 L0 ∧ f 140 = .int .i64 (n : Nat) ∧ f 141 = .int .i64 (i : Nat) ∧ f 20 = .int .i64 (i : Nat) ∧ f 168 = .slice ad (q - p) (L0 - p) ∧ f 169 = .int .i64 ((q - p : Nat) : Int) ∧ f 170 = .int .i64 (j : Nat)) (q - p) ⟨_, rfl, E, B1, D, pf1, le, 0, rfl, fun _ _ => rfl, HD1.out.drew, ⟨HJ1.out.1, HJ1.out.2, Nat.le_refl _, HJS.out.le⟩, ⟨by simp [fup_at, hf.h7], by simp [fup_at, hf.h8], by simp [fup_at, hf.h9], by simp [fup_at, hf.h10], by simp [fup_at, hf.h11], by simp [fup_at, hf.h12], by simp [fup_at, hf.h13]⟩, by simp [fup_at, h1], by simp [fup_at, h2], by simp [fup_at, h140], by simp [fup_at, h141], by simp [fup_at], by simp [fup_at], by simp [fup_at], by simp [fup_at]⟩ ?_
  clear HD1 HJ1 HD HF hf h1 h2 h140 h141 f
  rintro g _ w2 ⟨f, rfl, E1, B2, D1, pf2, le1, j, hg, hE1, hD, hJ2, hf, h1, h2, h140, h141, h20, h168, h169, h170⟩ J K1 hJ hK1
  have HJ : Hid _ := hJ
  have HK1 : Hid (∀ a' w', Handed J g a' w' → K1 a' w') := hK1
  have HD : Hid (Dp w0 w2 E1 B2 n m pst D1 pf2 le1) := hD
  have HF : Hid (Dh E1 n f) := hf
  have HE1 : Hid (∀ k, k ≠ 15 → E1 k = E k) := hE1
  have HJ2 : Hid ((∀ k, k ≤ i → pf2 k = pf k) ∧ pf2 (i + 1) = le1 ∧ le ≤ le1 ∧ le1 ≤ p0 i + j) := hJ2
  clear hJ hK1 hD hE1 hf hJ2
  obtain ⟨r, hr⟩ : ∃ r, r = q - p := ⟨_, rfl⟩
  rw [← hr] at h168 h169 hg
  have HRR : Hid (r = q - p) := hr
  clear hr
  refine wp_seq_hid (fun Ka HKa => ?_)
  go_wp2
  refine HKa.out _ _ ?_
  clear HKa Ka
  refine wp_seq_hid (fun Kb HKb => ?_)
  refine hF.cond (by omega) rfl (fun h0 => ?_) (fun h0 => ?_)
  · have hj : j < r := by simpa using h0
    clear h0
    have hlt : p < q := by have := HRR.out; omega
    have hjl : j ≤ 100000000 := by have := HRR.out; omega
    obtain rfl := had' hlt
    obtain ⟨kq0, hqn⟩ := hPr.qc (p + j) (by have := HRR.out; omega)
    have kqq := old_cell HD.out.st.since kq0
    clear kq0
    obtain ⟨v, hv⟩ : ∃ v, v = q0 (p + j) := ⟨_, rfl⟩
    rw [← hv] at kqq hqn
    have HV : Hid (v = q0 (p + j)) := hv
    clear hv
    have hjz : (j : Int) < (r : Int) := by omega
    go_wp2
    refine HKb.out _ _ ?_
    clear HKb
    refine wp_seq_hid (fun K2 HK2 => ?_)
    refine wp_block ?_
    refine wp_seq_hid (fun K3 HK3 => ?_)
    go_wp2
    refine HK3.out _ _ ?_
    clear HK3 kqq
    have k0 := HD.out.st.valAt (k := 12) (by omega) HD.out.b12 (i := 0) (by omega)
    rw [HD.out.d0] at k0
    obtain ⟨u1, ku1, hu1⟩ := HD.out.st.read 13 (by omega) (i := v) (by rw [HD.out.b13]; exact hqn)
    obtain ⟨u2, ku2, hu2⟩ := HD.out.st.read 13 (by omega) (i := i) (by rw [HD.out.b13]; exact hi)
    rw [HD.out.b13] at hu1 hu2
    obtain ⟨t1, rfl⟩ := hu1
    obtain ⟨t2, rfl⟩ := hu2
    have hvz : (v : Int) < (n : Int) := by omega
    have h9 := HF.out.h9
    have HEND : Hid (∀ (y : Nat → Value) (w3 : World) (E2 : Nat → Nat) (B3 : Nat → Lb) (D2 : Nat → Value) (pf3 : Nat → Nat) (le2 : Nat), (∀ k, k ≠ 15 → E2 k = E k) → Dp w0 w3 E2 B3 n m pst D2 pf3 le2 → ((∀ k, k ≤ i → pf3 k = pf k) ∧ pf3 (i + 1) = le2 ∧ le ≤ le2 ∧ le2 ≤ p0 i + (j + 1)) → Dh E2 n y → y 1 = .slice (some ⟨pb, 0, none⟩) (n + 1) (n + 1) → y 2 = .slice (some ⟨qb, 0, none⟩) L0 L0 → y 140 = .int .i64 (n : Nat) → y 141 = .int .i64 (i : Nat) → y 20 = .int .i64 (i : Nat) → y 168 = .slice (some ⟨qb, p, none⟩) r (L0 - p) → y 169 = .int .i64 (r : Nat) → y 170 = .int .i64 (j : Nat) → K2 (F y) w3) := ?hend
    case hend =>
      clear k0 ku1 ku2 h9 h1 h2 h140 h141 h20 h168 h169 h170
      intro y w3 E2 B3 D2 pf3 le2 hE2 hD hJ3 hf h1 h2 h140 h141 h20 h168 h169 h170
      refine HK2.out _ _ ?_
      clear HK2
      have HD3 : Hid (Dp w0 w3 E2 B3 n m pst D2 pf3 le2) := hD
      have HF3 : Hid (Dh E2 n y) := hf
      have HE2 : Hid (∀ k, k ≠ 15 → E2 k = E k) := hE2
      have HJ3 : Hid ((∀ k, k ≤ i → pf3 k = pf k) ∧ pf3 (i + 1) = le2 ∧ le ≤ le2 ∧ le2 ≤ p0 i + (j + 1)) := hJ3
      clear hD hf hE2 hJ3
      go_wp2
      have hf := HF3.out
      refine HK1.out _ _ ⟨g - 1, by omega, HJ.out _ _ _ ⟨_, rfl, E2, B3, D2, pf3, le2, j + 1, by have := HRR.out; omega, HE2.out, HD3.out, HJ3.out, ⟨by simp [fup_at, hf.h7], by simp [fup_at, hf.h8], by simp [fup_at, hf.h9], by simp [fup_at, hf.h10], by simp [fup_at, hf.h11], by simp [fup_at, hf.h12], by simp [fup_at, hf.h13]⟩, by simp [fup_at, h1], by simp [fup_at, h2], by simp [fup_at, h140], by simp [fup_at, h141], by simp [fup_at, h20], by rw [← HRR.out]; simp [fup_at, h168], by rw [← HRR.out]; simp [fup_at, h169], by simp [fup_at]⟩⟩
    refine wp_seq_hid (fun K3 HK3 => ?_)
    go_still (by kernel_rfl)
    go_wp2
    refine HK3.out _ _ ?_
    clear HK3
    refine hF.cond (by omega) rfl (fun h0 => ?_) (fun h0 => ?_)
    · clear h0 k0 ku1 ku2
      refine wp_seq_hid (fun K3 HK3 => ?_)
      obtain ⟨cq, hsl⟩ := HD.out.sl
      obtain ⟨sa, sc, hD6, _⟩ := hsl.form
      have k6 := HD.out.drew.st.valAt (k := 12) (by omega) HD.out.b12 (i := 6) (by omega)
      rw [hD6] at k6 hsl
      have HSL : Hid (Sl E1 B2 15 3 1 le1 cq (qn n) (.slice sa le1 sc)) := hsl
      have HD6 : Hid (D1 6 = .slice sa le1 sc) := hD6
      clear hsl hD6
      have hle1 : le1 ≤ 100000000000 := by have := HJ2.out.2.2.2; have := hPr.lim i (by omega); omega
      go_wp2_with (at_builtin; refine hF.app ety3 rfl 193 195 196 rfl rfl (by omega) (by omega) HSL.out (HD.out.drew.st.alloc _) (by omega) rfl _ rfl [.int .i64 (v : Nat)] rfl (news1 _ _ _) (by simp [Value.oneCell']) hle1 (qn n) (fun i u hi hq => hq) (fun j u hj => ?zz) ?_; (case zz => match j, hj with | 0, hj => simp at hj; exact ⟨v, hj.symm, hqn⟩); intro g3 d3 w3 hap; have k8' : w3.cell? ⟨E1 12, 6, none⟩ = some (.slice sa le1 sc) := (by rw [← HD6.out]; exact hap.1.valAt (k := 12) (by omega) (by rw [upd_other _ _ (by omega)]; exact HD.out.b12) (by omega)); have k8f : w3.frozen? ⟨E1 12, 6, none⟩ = false := (hap.1.frz 12 (by omega) 6))
      refine HK3.out _ _ ?_
      clear HK3
      obtain ⟨E3, B3, D3, hE3, hD3⟩ := (HD.out.drew.alloc _).app hap
      clear hap k8' k8f k6
      generalize w3.setCell ⟨E1 12, 6, none⟩ (.slice (some ⟨g3, 0, none⟩) (le1 + 1) d3) = w4 at hD3 ⊢
      have k5 := hD3.st.valAt (k := 12) (by omega) hD3.b12 (i := 5) (by omega)
      rw [hD3.d5] at k5
      have kc : w4.cell? ⟨E3 14, i + 1, none⟩ = some (.int .i64 (le1 : Nat)) := by rw [hD3.st.arr (k := 14) (by omega) hD3.b14 (i := i + 1) (by omega), HJ2.out.2.1]
      have kcf := hD3.st.frz 14 (by omega) (i + 1)
      obtain ⟨B4, hD4⟩ := hD3.set (i + 1) (le1 + 1)
      rw [show ((le1 + 1 : Nat) : Int) = (le1 : Int) + 1 by omega] at hD4
      have HD4 : Hid (Dp w0 (w4.setCell ⟨E3 14, i + 1, none⟩ (.int .i64 ((le1 : Int) + 1))) E3 B4 n m pst D3 (upd pf2 (i + 1) (le1 + 1)) (le1 + 1)) := hD4
      have HF3 : Hid (Dh E3 n f) := HF.out.kev hE3
      rw [← hE3 12 (by omega)] at h9
      rw [← hE3 12 (by omega)]
      have HE3 : Hid (∀ k, k ≠ 15 → E3 k = E k) := fun k hk => (hE3 k hk).trans (HE1.out k hk)
      clear hD4 hD3 hE3
      go_wp2
      have hf := HF3.out
      refine HEND.out _ _ E3 B4 D3 _ _ HE3.out HD4.out ⟨fun k hk => by rw [upd_other _ _ (by omega)]; exact HJ2.out.1 k hk, upd_same _ _ _, by have := HJ2.out.2.2.1; omega, by have := HJ2.out.2.2.2; omega⟩ ⟨by simp [fup_at, hf.h7], by simp [fup_at, hf.h8], by simp [fup_at, hf.h9], by simp [fup_at, hf.h10], by simp [fup_at, hf.h11], by simp [fup_at, hf.h12], by simp [fup_at, hf.h13]⟩ (by simp [fup_at, h1]) (by simp [fup_at, h2]) (by simp [fup_at, h140]) (by simp [fup_at, h141]) (by simp [fup_at, h20]) (by simp [fup_at, h168]) (by simp [fup_at, h169]) (by simp [fup_at, h170])
    · clear h0
      go_wp2
      have hf := HF.out
      refine HEND.out _ _ E1 B2 D1 _ _ HE1.out HD.out.drew ⟨HJ2.out.1, HJ2.out.2.1, HJ2.out.2.2.1, by have := HJ2.out.2.2.2; omega⟩ ⟨by simp [fup_at, hf.h7], by simp [fup_at, hf.h8], by simp [fup_at, hf.h9], by simp [fup_at, hf.h10], by simp [fup_at, hf.h11], by simp [fup_at, hf.h12], by simp [fup_at, hf.h13]⟩ (by simp [fup_at, h1]) (by simp [fup_at, h2]) (by simp [fup_at, h140]) (by simp [fup_at, h141]) (by simp [fup_at, h20]) (by simp [fup_at, h168]) (by simp [fup_at, h169]) (by simp [fup_at, h170])
  · clear h0
    go_wp2
    refine HK5.out _ _ ?_
    clear HK5 HK1 HJ HKb
    have HG : Hid (g + j = r) := hg
    clear hg
    go_wp2
    have hf := HF.out
    have hj2 := HJ2.out
    have hjs := HJS.out
    have hpq2 := HPQ.out
    have hrr := HRR.out
    have hgg := HG.out
    refine HQ.out _ _ E1 B2 D1 pf2 le1 HE1.out HD.out ⟨fun k hk => ?_, fun k hk => ?_, hj2.2.1, ?_⟩ ⟨by simp [fup_at, hf.h7], by simp [fup_at, hf.h8], by simp [fup_at, hf.h9], by simp [fup_at, hf.h10], by simp [fup_at, hf.h11], by simp [fup_at, hf.h12], by simp [fup_at, hf.h13]⟩ (by simp [fup_at, h1]) (by simp [fup_at, h2]) (by simp [fup_at, h140]) (by simp [fup_at])
    · by_cases e : k = i
      · subst e
        rw [hj2.1 k (Nat.le_refl _), hj2.2.1, hjs.top]
        exact hj2.2.2.1
      · rw [hj2.1 k (by omega), hj2.1 (k + 1) (by omega)]
        exact hjs.mono k (by omega)
    · by_cases e : k = i + 1
      · subst e; rw [hj2.2.1]; exact Nat.le_refl _
      · rw [hj2.1 k (by omega)]
        exact Nat.le_trans (hjs.lim k (by omega)) hj2.2.2.1
    · omega

set_option maxHeartbeats 4000000 in
set_option maxRecDepth 100000 in
theorem t29 {F : (Nat → Value) → Act} (hF : Fr 577 F) {w0 w : World} {E : Nat → Nat} {B : Nat → Lb} {n m L0 pb qb : Nat} {p0 q0 : Nat → Nat} {pst : List Nat} {D f : Nat → Value} {R : Ending → World → Prop}
    (hPr : Pr w0 n L0 pb qb p0 q0) (hL : L0 ≤ 100000000) (hn : n ≤ 100000) (hnd : pst.Nodup) (hpl : ∀ z ∈ pst, z < n) (hm : m ≤ 100001) (hm1 : 1 ≤ m)
    (hS : St w0 w 14 E B) (hv : Dv E B n m pst) (b12 : B 12 = vals 130 21 D) (b13 : B 13 = bools n) (d0 : D 0 = .slice (some ⟨E 13, 0, none⟩) n n)
    (hf : Dh E n f) (h1 : f 1 = .slice (some ⟨pb, 0, none⟩) (n + 1) (n + 1)) (h2 : f 2 = .slice (some ⟨qb, 0, none⟩) L0 L0)
    (hR : ∀ w', DomOk w0 w' n (E 12) → R (.returned (.pointer (some ⟨E 12, 0, none⟩))) w') :
    ((Ybaz.f38.body.bind (codeAt 29)).getD .skip).wp Ybaz.prog (bodyPost Ybaz.prog Ybaz.f38 R) (F f) w := by
  conv => arg 2; whnf
  have hget := hF.get
  have hmk := hF.up
  have HR : Hid (∀ w', DomOk w0 w' n (E 12) → R (.returned (.pointer (some ⟨E 12, 0, none⟩))) w') := hR
  clear hR
  refine wp_seq_hid (fun K HK => ?_)
  refine r29 hF hn hL hf.h7 h2 hS b12 hf.h9 ?_
  intro x w1 g4 g7 D1 hx hS1 d5 d6 hkp
  have hfx : Dh E n x := hf.keep hx (by kernel_rfl)
  have x1 := (hx 1 (by omega) (by kernel_rfl)).trans h1
  have x2 := (hx 2 (by omega) (by kernel_rfl)).trans h2
  refine HK.out _ _ ?_
  clear HK K hx hf h1 h2 hS f
  obtain ⟨E1, hE1⟩ : ∃ E1, E1 = upd (upd E 14 g4) 15 g7 := ⟨_, rfl⟩
  have eo : ∀ k, k < 14 → E1 k = E k := fun k hk => by rw [hE1, upd_other _ _ (by omega), upd_other _ _ (by omega)]
  have hD : Dp w0 w1 E1 (upd (upd (upd B 12 (vals 130 21 D1)) 14 (arr (n + 1) (fun _ => ((0 : Nat) : Int)))) 15 (gl 3 1 0 L0 (qn n))) n m pst D1 (fun _ => 0) 0 := by
    have s2 := hS1.recast (upd (upd (upd B 12 (vals 130 21 D1)) 14 (arr (n + 1) (fun _ => ((0 : Nat) : Int)))) 15 (gl 3 1 0 L0 (qn n))) (fun k hk => by
      by_cases e1 : k = 15
      · subst e1
        rw [upd_same, upd_same]
        exact ⟨rfl, by show L0 * 1 = L0; omega, fun i v _ hv hi => by have : i < 0 * 1 := hi; omega⟩
      · rw [upd_other _ _ e1, upd_other _ _ e1]
        by_cases e2 : k = 14
        · subst e2
          rw [upd_same, upd_same]
          exact ⟨rfl, rfl, fun i v _ hv => hv⟩
        · rw [upd_other _ _ e2, upd_other _ _ e2]
          exact same_lb rfl)
    rw [← hE1] at s2
    refine ⟨s2, hv.congr (fun k hk => eo k (by omega)) (fun k hk => by rw [upd_other _ _ (by omega), upd_other _ _ (by omega), upd_other _ _ (by omega)]), rfl, b13, rfl, ?_, ?_, ⟨L0, ?_, rfl, by omega, by unfold maxLen; omega⟩⟩
    · rw [hkp 0 (by omega) (by omega), d0, eo 13 (by omega)]
    · rw [d5, hE1]; rfl
    · rw [d6, hE1]; rfl
  have HD : Hid _ := hD
  have HFX : Hid (Dh E1 n x) := by
    have e : ∀ k, k < 14 → E k = E1 k := fun k hk => (eo k hk).symm
    obtain ⟨h7, h8, h9, h10, h11, h12, h13⟩ := hfx
    rw [e 12 (by omega)] at h9
    rw [e 0 (by omega)] at h10
    rw [e 1 (by omega)] at h11
    rw [e 2 (by omega)] at h12
    rw [e 3 (by omega)] at h13
    exact ⟨h7, h8, h9, h10, h11, h12, h13⟩
  have HR1 : Hid (∀ w', DomOk w0 w' n (E1 12) → R (.returned (.pointer (some ⟨E1 12, 0, none⟩))) w') := by rw [eo 12 (by omega)]; exact HR.out
  have x7 := hfx.h7
  clear hD hfx HR hE1 eo hS1 d5 d6 hkp d0 b12 b13 hv
  refine wp_seq_hid (fun K HK => ?_)
  refine wp_seq_hid (fun K2 HK2 => ?_)
  go_wp2
  refine HK2.out _ _ ?_
  clear HK2 K2
  have hf := HFX.out
  refine wp_block ?_
  refine wp_loop_ghost_k (fun g a w => ∃ f, a = F f ∧ ∃ E' B' D' pf le i, g + i = n ∧ (∀ k, k ≠ 15 → E' k = E1 k) ∧ Dp w0 w E' B' n m pst D' pf le ∧ Js p0 pf le i ∧ Dh E' n f ∧ f 1 = .slice (some ⟨pb, 0, none⟩) (n + 1) (n + 1) ∧ f 2 = .slice (some ⟨qb, 0, none⟩) L0 L0 ∧ f 140 = .int .i64 (n : Nat) ∧ f 141 = .int .i64 (i : Nat)) n ⟨_, rfl, E1, _, D1, _, 0, 0, rfl, fun _ _ => rfl, HD.out, ⟨fun _ h => absurd h (Nat.not_lt_zero _), fun _ _ => Nat.le_refl _, rfl, Nat.zero_le _⟩, ⟨by simp [fup_at, hf.h7], by simp [fup_at, hf.h8], by simp [fup_at, hf.h9], by simp [fup_at, hf.h10], by simp [fup_at, hf.h11], by simp [fup_at, hf.h12], by simp [fup_at, hf.h13]⟩, by simp [fup_at, x1], by simp [fup_at, x2], by simp [fup_at], by simp [fup_at]⟩ ?_
  clear HD HFX hf x1 x2 x7 x
  rintro g _ w2 ⟨f, rfl, E2, B2, D2, pf, le, i, hg, hE2, hD, hJs, hf, h1, h2, h140, h141⟩ J K1 hJ hK1
  have HJ : Hid _ := hJ
  have HK1 : Hid (∀ a' w', Handed J g a' w' → K1 a' w') := hK1
  have HD : Hid (Dp w0 w2 E2 B2 n m pst D2 pf le) := hD
  have HF : Hid (Dh E2 n f) := hf
  have HE2 : Hid (∀ k, k ≠ 15 → E2 k = E1 k) := hE2
  have HJS : Hid (Js p0 pf le i) := hJs
  clear hJ hK1 hD hE2 hf hJs
  refine wp_seq_hid (fun Ka HKa => ?_)
  go_wp2
  refine HKa.out _ _ ?_
  clear HKa Ka
  refine wp_seq_hid (fun Kb HKb => ?_)
  have hf := HF.out
  refine hF.cond (by omega) rfl (fun h0 => ?_) (fun h0 => ?_)
  · have hi : i < n := by simpa using h0
    clear h0
    go_wp2
    refine HKb.out _ _ ?_
    clear HKb
    refine b32 hF hPr hL hn hi HD.out HJS.out ⟨by simp [fup_at, hf.h7], by simp [fup_at, hf.h8], by simp [fup_at, hf.h9], by simp [fup_at, hf.h10], by simp [fup_at, hf.h11], by simp [fup_at, hf.h12], by simp [fup_at, hf.h13]⟩ (by simp [fup_at, h1]) (by simp [fup_at, h2]) (by simp [fup_at, h140]) (by simp [fup_at, h141]) ?_
    intro y w3 E3 B3 D3 pf3 le3 hE3 hD3 hJ3 hf3 y1 y2 y140 y141
    exact HK1.out _ _ ⟨g - 1, by omega, HJ.out _ _ _ ⟨_, rfl, E3, B3, D3, pf3, le3, i + 1, by omega, fun k hk => (hE3 k hk).trans (HE2.out k hk), hD3, hJ3, hf3, y1, y2, y140, y141⟩⟩
  · have hi : i = n := by
      have : ¬ i < n := by simpa using h0
      omega
    clear h0
    subst hi
    go_wp2
    refine HK.out _ _ ?_
    clear HK HK1 HJ HKb
    have hd := HD.out
    have hjs := HJS.out
    obtain ⟨cL, d6, b15, hlc, _⟩ := hd.d6
    have s2 := hd.st.perm 14 (fun k => match k with
      | 10 => 14
      | 11 => 15
      | k => k) (by decide) (by decide)
    have hln := hPr.lim i (Nat.le_refl _)
    have hle := hjs.le
    exact t42 hF (D := D2) (pf := pf) (L := le) (cL := cL) ⟨hjs.mono, hjs.lim⟩ (by omega) hn hnd hpl ⟨s2, hd.v.b0, hd.v.b5, hd.v.b1, hd.v.b2, hd.v.b3, hd.b14, b15, hd.b12, hd.d5, d6, hlc⟩ hm hm1 ⟨by simp [fup_at, hf.h7], by simp [fup_at, hf.h8], by simp [fup_at, hf.h9], by simp [fup_at, hf.h10], by simp [fup_at, hf.h11], by simp [fup_at, hf.h12], by simp [fup_at, hf.h13]⟩ (by
      have e := HE2.out 12 (by omega)
      intro w' h
      have h' : DomOk w0 w' i (E2 12) := h
      rw [e] at h'
      have hr := HR1.out w' h'
      rw [← e] at hr
      exact hr)
end Go.Proofs.YbulkexmzaGreat
