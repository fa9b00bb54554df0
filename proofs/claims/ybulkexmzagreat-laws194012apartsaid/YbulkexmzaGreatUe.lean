/-
  newDominance (38): a round of its main loop, and from region 53 on.
-/
import Derived.Test.YbulkexmzaGreatUd
namespace Go.Proofs.YbulkexmzaGreat
open Go.RowKit
attribute [local go_sem] fup_at

set_option maxHeartbeats 4000000 in
set_option maxRecDepth 100000 in
theorem b56 {F : (Nat → Value) → Act} (hF : Fr 577 F) {w0 w : World} {E : Nat → Nat} {B : Nat → Lb} {n m L cL wv : Nat} {pf : Nat → Nat} {pst : List Nat} {D f : Nat → Value} {Q : Exit → Act → World → Prop}
    (hP : Pf n L pf) (hL : L ≤ 100000000) (hn : n ≤ 100000)
    (hD : De w0 w E B n m L cL pf pst D (wv + 1)) (hm : m ≤ 100001) (hw0 : 0 < wv) (hwv : wv < m) (hf : Dg E n m f) (h33 : f 33 = .int .i64 (wv : Nat))
    (hQ : ∀ x w' E' B', (∀ k, k ≠ 21 → E' k = E k) → De w0 w' E' B' n m L cL pf pst D wv → Dg E' n m x → x 33 = .int .i64 ((wv - 1 : Nat) : Int) → Q .normal (F x) w') :
    ((Ybaz.f38.body.bind (codeAt 56)).getD .skip).wp Ybaz.prog Q (F f) w := by
  conv => arg 2; whnf
  have hget := hF.get
  have hmk := hF.up
  have HQ : Hid (∀ x w' E' B', (∀ k, k ≠ 21 → E' k = E k) → De w0 w' E' B' n m L cL pf pst D wv → Dg E' n m x → x 33 = .int .i64 ((wv - 1 : Nat) : Int) → Q .normal (F x) w') := hQ
  clear hQ
  have hwz : (wv : Int) < (m : Int) := by omega
  obtain ⟨vv, cv, hb1, hsl⟩ := hD.b1
  obtain ⟨va, vc, rfl, hva⟩ := hsl.form
  obtain rfl := hva (by omega)
  obtain ⟨u, ku, ⟨b, rfl, _, hb⟩, _⟩ := hsl.cell hD.ev.st (by omega) (i := wv) (by omega)
  have hb := hb hw0
  have k1 := hD.ev.st.box (k := 1) (by omega) hb1
  have k6 := hD.ev.st.valAt (k := 12) (by omega) hD.b12 (i := 6) (by omega)
  have k5 := hD.ev.st.valAt (k := 12) (by omega) hD.b12 (i := 5) (by omega)
  rw [hD.d6] at k6
  rw [hD.d5] at k5
  have kp := hD.ev.st.arr (k := 10) (by omega) hD.b10 (i := b) (by omega)
  have kq := hD.ev.st.arr (k := 10) (by omega) hD.b10 (i := b + 1) (by omega)
  have hpq := hP.mono b hb
  have hq := hP.lim (b + 1) (by omega)
  have hlc := hD.lc
  obtain ⟨p, hp⟩ : ∃ p, p = pf b := ⟨_, rfl⟩
  obtain ⟨q, hqq⟩ : ∃ q, q = pf (b + 1) := ⟨_, rfl⟩
  rw [← hp] at kp hpq
  rw [← hqq] at kq hpq hq
  have HPQ : Hid (p = pf b ∧ q = pf (b + 1)) := ⟨hp, hqq⟩
  clear hp hqq
  have hqc : q ≤ cL := by omega
  have hbz : (b : Int) < (n : Int) + 1 := by omega
  have hpz : (p : Int) ≤ (q : Int) := by omega
  have hqz : (q : Int) ≤ (cL : Int) := by omega
  have hwr : IntKind.i64.wrap ((b : Int) + 1) = (b : Int) + 1 := by rw [IntKind.wrap_i64]; omega
  have hb1n : ¬ ((b : Int) + 1 < 0) := by omega
  have hb1p : (0 : Int) ≤ (b : Int) + 1 := by omega
  have hb1t : ((b : Int) + 1).toNat = b + 1 := by omega
  have hbzz : (b : Int) < (n : Int) := by omega
  have h11 := hf.h11
  have h9 := hf.h9
  have HD : Hid (De w0 w E B n m L cL pf pst D (wv + 1)) := hD
  have HF : Hid (Dg E n m f) := hf
  clear hD hf hsl hb1 hva
  refine wp_seq_hid (fun K5 HK5 => ?_)
  refine wp_block ?_
  refine wp_seq_hid (fun K HK => ?_)
  go_wp2
  refine HK.out _ _ ?_
  clear HK K k1 ku
  refine wp_seq_hid (fun K HK => ?_)
  refine wp_seq_hid (fun K2 HK2 => ?_)
  go_still (by kernel_rfl)
  refine HK2.out _ _ ?_
  clear HK2 K2 k5 k6 kp kq h11 h9
  have hf := HF.out
  obtain ⟨ad, had⟩ : ∃ ad : Option Addr, ad = if cL = p then some ⟨E 11, 0, none⟩ else some ⟨E 11, p, none⟩ := ⟨_, rfl⟩
  have had' : p < q → ad = some ⟨E 11, p, none⟩ := fun h => by rw [had, if_neg (by omega)]
  rw [← had]
  clear had
  refine wp_block ?_
  refine wp_loop_ghost_k (fun g a w => ∃ f, a = F f ∧ ∃ E' B' j, (∀ k, k ≠ 21 → E' k = E k) ∧ De w0 w E' B' n m L cL pf pst D (wv + 1) ∧ Dg E' n m f ∧ f 33 = .int .i64 (wv : Nat) ∧ f 270 = .slice ad (q - p) (cL - p) ∧ f 271 = .int .i64 ((q - p : Nat) : Int) ∧ f 272 = .int .i64 (j : Nat) ∧ g + j = q - p) (q - p) ⟨_, rfl, E, B, 0, fun _ _ => rfl, HD.out.drew, ⟨by simp [fup_at, hf.h7], by simp [fup_at, hf.h8], by simp [fup_at, hf.h9], by simp [fup_at, hf.h10], by simp [fup_at, hf.h11], by simp [fup_at, hf.h12], by simp [fup_at, hf.h13], by simp [fup_at, hf.h23], by simp [fup_at, hf.h24], by simp [fup_at, hf.h26], by simp [fup_at, hf.h27], by simp [fup_at, hf.h28], by simp [fup_at, hf.h29], by simp [fup_at, hf.h32]⟩, by simp [fup_at, h33], by simp [fup_at], by simp [fup_at], by simp [fup_at], by omega⟩ ?_
  clear HD HF hf h33 f
  rintro g _ w1 ⟨f, rfl, E1, B1, j, hE1, hD, hf, h33, h270, h271, h272, hg⟩ J K1 hJ hK1
  have HJ : Hid _ := hJ
  have HK1 : Hid (∀ a' w', Handed J g a' w' → K1 a' w') := hK1
  have HD : Hid (De w0 w1 E1 B1 n m L cL pf pst D (wv + 1)) := hD
  have HF : Hid (Dg E1 n m f) := hf
  have HE1 : Hid (∀ k, k ≠ 21 → E1 k = E k) := hE1
  clear hJ hK1 hD hE1 hf
  obtain ⟨r, hr⟩ : ∃ r, r = q - p := ⟨_, rfl⟩
  rw [← hr] at h270 h271 hg
  have HRR : Hid (r = q - p) := hr
  clear hr
  refine wp_seq_hid (fun Ka HKa => ?_)
  go_wp2
  refine HKa.out _ _ ?_
  clear HKa Ka
  refine wp_seq_hid (fun Kb HKb => ?_)
  refine hF.cond (by omega) rfl (fun h0 => ?_) (fun h0 => ?_)
  · have hj : j < r := by simpa using h0
    clear h0
    have hlt : p < q := by have := HRR.out; omega
    obtain rfl := had' hlt
    have hb11 := HD.out.b11
    obtain ⟨u, ku, hu⟩ := HD.out.ev.st.read 11 (by omega) (i := p + j) (by rw [hb11]; show p + j < cL * 1; have := HRR.out; omega)
    rw [hb11] at hu
    obtain ⟨pr, rfl, hpr⟩ := hu (by show p + j < L * 1; have := HRR.out; omega)
    rw [HE1.out 11 (by omega)] at ku
    go_wp2
    refine HKb.out _ _ ?_
    clear HKb
    refine wp_seq_hid (fun K2 HK2 => ?_)
    refine wp_block ?_
    refine wp_seq_hid (fun K3 HK3 => ?_)
    have hjz : (j : Int) < (r : Int) := by omega
    have hjl : j ≤ 100000000 := by have := HRR.out; omega
    go_wp2
    refine HK3.out _ _ ?_
    clear HK3 ku
    have hf := HF.out
    refine r60 hF HD.out hm hwv hpr (by simp [fup_at, hf.h10]) (by simp [fup_at, hf.h24]) (by simp [fup_at, hf.h32]) (by simp [fup_at, h33]) (by simp [fup_at]) ?_
    intro x w2 E2 B2 hx hk hD2
    have x33 : x 33 = .int .i64 (wv : Nat) := (hx 33 (by omega) (by kernel_rfl)).trans (by simp [fup_at, h33])
    have x270 : x 270 = .slice (some ⟨E 11, p, none⟩) r (cL - p) := (hx 270 (by omega) (by kernel_rfl)).trans (by simp [fup_at, h270])
    have x271 : x 271 = .int .i64 (r : Nat) := (hx 271 (by omega) (by kernel_rfl)).trans (by simp [fup_at, h271])
    have x272 : x 272 = .int .i64 (j : Nat) := (hx 272 (by omega) (by kernel_rfl)).trans (by simp [fup_at, h272])
    have hf2 : Dg E2 n m x := (Dg.keep (t := opsL (Ybaz.f38.body.bind (regAt 60))) (f := _) ⟨by simp [fup_at, hf.h7], by simp [fup_at, hf.h8], by simp [fup_at, hf.h9], by simp [fup_at, hf.h10], by simp [fup_at, hf.h11], by simp [fup_at, hf.h12], by simp [fup_at, hf.h13], by simp [fup_at, hf.h23], by simp [fup_at, hf.h24], by simp [fup_at, hf.h26], by simp [fup_at, hf.h27], by simp [fup_at, hf.h28], by simp [fup_at, hf.h29], by simp [fup_at, hf.h32]⟩ hx (by kernel_rfl)).kev hk
    refine HK2.out _ _ ?_
    clear HK2 hx hf HF h33 h270 h271 h272
    have HD2 : Hid (De w0 w2 E2 B2 n m L cL pf pst D (wv + 1)) := hD2
    have HF2 : Hid (Dg E2 n m x) := hf2
    have HE2 : Hid (∀ k, k ≠ 21 → E2 k = E k) := fun k hk' => (hk.1 k hk').trans (HE1.out k hk')
    clear hD2 hf2 hk
    go_wp2
    have hf := HF2.out
    exact HK1.out _ _ ⟨g - 1, by omega, HJ.out _ _ _ ⟨_, rfl, E2, B2, j + 1, HE2.out, HD2.out, ⟨by simp [fup_at, hf.h7], by simp [fup_at, hf.h8], by simp [fup_at, hf.h9], by simp [fup_at, hf.h10], by simp [fup_at, hf.h11], by simp [fup_at, hf.h12], by simp [fup_at, hf.h13], by simp [fup_at, hf.h23], by simp [fup_at, hf.h24], by simp [fup_at, hf.h26], by simp [fup_at, hf.h27], by simp [fup_at, hf.h28], by simp [fup_at, hf.h29], by simp [fup_at, hf.h32]⟩, by simp [fup_at, x33], by rw [← HRR.out]; simp [fup_at, x270], by rw [← HRR.out]; simp [fup_at, x271], by simp [fup_at], by have := HRR.out; omega⟩⟩
  · clear h0
    go_wp2
    refine HK.out _ _ ?_
    clear HK HK1 HJ HKb
    have hf := HF.out
    refine b62 hF HD.out hm hw0 hwv ⟨by simp [fup_at, hf.h7], by simp [fup_at, hf.h8], by simp [fup_at, hf.h9], by simp [fup_at, hf.h10], by simp [fup_at, hf.h11], by simp [fup_at, hf.h12], by simp [fup_at, hf.h13], by simp [fup_at, hf.h23], by simp [fup_at, hf.h24], by simp [fup_at, hf.h26], by simp [fup_at, hf.h27], by simp [fup_at, hf.h28], by simp [fup_at, hf.h29], by simp [fup_at, hf.h32]⟩ (by simp [fup_at, h33]) ?_
    intro x w' E' B' hE' hD' hf' x33
    have HE' : Hid (∀ k, k ≠ 21 → E' k = E k) := fun k hk => (hE' k hk).trans (HE1.out k hk)
    have HD' : Hid (De w0 w' E' B' n m L cL pf pst D wv) := hD'
    have HF' : Hid (Dg E' n m x) := hf'
    refine HK5.out _ _ ?_
    clear HK5 hE' hD' hf' hf HF HD h33 h270 h271 h272
    go_wp2
    have hf := HF'.out
    exact HQ.out _ _ E' B' HE'.out HD'.out ⟨by simp [fup_at, hf.h7], by simp [fup_at, hf.h8], by simp [fup_at, hf.h9], by simp [fup_at, hf.h10], by simp [fup_at, hf.h11], by simp [fup_at, hf.h12], by simp [fup_at, hf.h13], by simp [fup_at, hf.h23], by simp [fup_at, hf.h24], by simp [fup_at, hf.h26], by simp [fup_at, hf.h27], by simp [fup_at, hf.h28], by simp [fup_at, hf.h29], by simp [fup_at, hf.h32]⟩ (by simp [fup_at]; omega)

set_option maxHeartbeats 4000000 in
set_option maxRecDepth 100000 in
theorem t53 {F : (Nat → Value) → Act} (hF : Fr 577 F) {w0 w : World} {E : Nat → Nat} {B : Nat → Lb} {n m L cL : Nat} {pf : Nat → Nat} {pst : List Nat} {D f : Nat → Value} {R : Ending → World → Prop}
    (hP : Pf n L pf) (hL : L ≤ 100000000) (hn : n ≤ 100000) (hnd : pst.Nodup) (hpl : ∀ z ∈ pst, z < n)
    (hD : De w0 w E B n m L cL pf pst D m) (hm : m ≤ 100001) (hm1 : 1 ≤ m) (hf : Dg E n m f)
    (hR : ∀ w', DomOk w0 w' n (E 12) → R (.returned (.pointer (some ⟨E 12, 0, none⟩))) w') :
    ((Ybaz.f38.body.bind (codeAt 53)).getD .skip).wp Ybaz.prog (bodyPost Ybaz.prog Ybaz.f38 R) (F f) w := by
  conv => arg 2; whnf
  have hget := hF.get
  have hmk := hF.up
  have HR : Hid (∀ w', DomOk w0 w' n (E 12) → R (.returned (.pointer (some ⟨E 12, 0, none⟩))) w') := hR
  clear hR
  have HD : Hid (De w0 w E B n m L cL pf pst D m) := hD
  have HF : Hid (Dg E n m f) := hf
  have h23 := hf.h23
  clear hD hf
  refine wp_seq_hid (fun K HK => ?_)
  refine wp_seq_hid (fun K2 HK2 => ?_)
  go_wp2
  refine HK2.out _ _ ?_
  clear HK2 K2
  have hf := HF.out
  refine wp_block ?_
  refine wp_loop_ghost_k (fun g a w => ∃ f, a = F f ∧ ∃ E' B', g + 1 ≤ m ∧ (∀ k, k ≠ 21 → E' k = E k) ∧ De w0 w E' B' n m L cL pf pst D (g + 1) ∧ Dg E' n m f ∧ f 33 = .int .i64 (g : Nat)) (m - 1) ⟨_, rfl, E, B, by omega, fun _ _ => rfl, by rw [show m - 1 + 1 = m by omega]; exact HD.out, ⟨by simp [fup_at, hf.h7], by simp [fup_at, hf.h8], by simp [fup_at, hf.h9], by simp [fup_at, hf.h10], by simp [fup_at, hf.h11], by simp [fup_at, hf.h12], by simp [fup_at, hf.h13], by simp [fup_at, hf.h23], by simp [fup_at, hf.h24], by simp [fup_at, hf.h26], by simp [fup_at, hf.h27], by simp [fup_at, hf.h28], by simp [fup_at, hf.h29], by simp [fup_at, hf.h32]⟩, by simp [fup_at]; omega⟩ ?_
  clear HD HF hf h23 f
  rintro g _ w1 ⟨f, rfl, E1, B1, hgm, hE1, hD, hf, h33⟩ J K1 hJ hK1
  have HJ : Hid _ := hJ
  have HK1 : Hid (∀ a' w', Handed J g a' w' → K1 a' w') := hK1
  have HD : Hid (De w0 w1 E1 B1 n m L cL pf pst D (g + 1)) := hD
  have HF : Hid (Dg E1 n m f) := hf
  have HE1 : Hid (∀ k, k ≠ 21 → E1 k = E k) := hE1
  clear hJ hK1 hD hE1 hf
  refine wp_seq_hid (fun Ka HKa => ?_)
  refine wp_seq_hid (fun Kb HKb => ?_)
  go_wp2
  refine HKb.out _ _ ?_
  clear HKb Kb
  refine hF.cond (by omega) rfl (fun h0 => ?_) (fun h0 => ?_)
  · have hg : 0 < g := by simpa using h0
    clear h0
    go_wp2
    refine HKa.out _ _ ?_
    clear HKa
    have hf := HF.out
    refine b56 hF hP hL hn HD.out hm hg (by omega) ⟨by simp [fup_at, hf.h7], by simp [fup_at, hf.h8], by simp [fup_at, hf.h9], by simp [fup_at, hf.h10], by simp [fup_at, hf.h11], by simp [fup_at, hf.h12], by simp [fup_at, hf.h13], by simp [fup_at, hf.h23], by simp [fup_at, hf.h24], by simp [fup_at, hf.h26], by simp [fup_at, hf.h27], by simp [fup_at, hf.h28], by simp [fup_at, hf.h29], by simp [fup_at, hf.h32]⟩ (by simp [fup_at, h33]) ?_
    intro x w' E' B' hE' hD' hf' x33
    exact HK1.out _ _ ⟨g - 1, by omega, HJ.out _ _ _ ⟨_, rfl, E', B', by omega, fun k hk => (hE' k hk).trans (HE1.out k hk), by rw [show g - 1 + 1 = g by omega]; exact hD', hf', x33⟩⟩
  · clear h0
    go_wp2
    refine HK.out _ _ ?_
    clear HK HK1 HJ HKa
    have hf := HF.out
    have e12 := HE1.out 12 (by omega)
    have hR := HR.out
    rw [← e12] at hR
    exact t75 hF hn hm hnd hpl HD.out.dm (Dg.df ⟨by simp [fup_at, hf.h7], by simp [fup_at, hf.h8], by simp [fup_at, hf.h9], by simp [fup_at, hf.h10], by simp [fup_at, hf.h11], by simp [fup_at, hf.h12], by simp [fup_at, hf.h13], by simp [fup_at, hf.h23], by simp [fup_at, hf.h24], by simp [fup_at, hf.h26], by simp [fup_at, hf.h27], by simp [fup_at, hf.h28], by simp [fup_at, hf.h29], by simp [fup_at, hf.h32]⟩) hR
end Go.Proofs.YbulkexmzaGreat
