/-
  Liveness (19): from region 14 on.
-/
import Derived.Test.YbulkexmzaGreatLj
namespace Go.Proofs.YbulkexmzaGreat
open Go.RowKit
attribute [local go_sem] fup_at

/-- While predFrom is reckoned: registers 0 the Live, 1 the box of l, 2 predFrom. -/
structure Lq (w0 w : World) (E : Nat → Nat) (B : Nat → Lb) (n : Nat) (D : Nat → Value) (s : Nat → Nat) : Prop where
  st : St w0 w 3 E B
  b0 : B 0 = vals 122 30 D
  b1 : B 1 = bx 74 (.pointer (some ⟨E 0, 0, none⟩))
  b2 : B 2 = arr (n + 1) (fun b => ((s b : Nat) : Int))
  d3 : D 3 = .slice (some ⟨E 2, 0, none⟩) (n + 1) (n + 1)
theorem Lq.set {w0 w : World} {E : Nat → Nat} {B : Nat → Lb} {n : Nat} {D : Nat → Value} {s s' : Nat → Nat} (h : Lq w0 w E B n D s) (i z : Nat) (hs : ∀ k, k ≤ n → s' k = upd s i z k) : ∃ B', Lq w0 (w.drew.setCell ⟨E 2, i, none⟩ (.int .i64 (z : Nat))) E B' n D s' := by
  have h1 := (h.st.drew.setArr (k := 2) (by omega) h.b2 i (z : Int)).wkn 2 (arr (n + 1) (fun b => ((s' b : Nat) : Int))) (by rw [upd_same]; rfl) (by rw [upd_same]; rfl) (fun k v hk hv => by
    rw [upd_same] at hv hk
    have hk' : k < n + 1 := hk
    have hv' : v = .int .i64 (upd (fun b => ((s b : Nat) : Int)) i (z : Int) k) := hv
    show v = .int .i64 ((s' k : Nat) : Int)
    rw [hv', hs k (by omega)]
    by_cases e : k = i
    · subst e; rw [upd_same, upd_same]
    · rw [upd_other _ _ e, upd_other _ _ e])
  exact ⟨_, h1, by rw [upd_other _ _ (by omega), upd_other _ _ (by omega)]; exact h.b0, by rw [upd_other _ _ (by omega), upd_other _ _ (by omega)]; exact h.b1, upd_same _ _ _, h.d3⟩
theorem Lsl.keep {E : Nat → Nat} {n fb ac : Nat} {aa : Option Addr} {f x : Nat → Value} {t : List Oper} (h : Lsl E n fb ac aa f) (hx : ∀ s, s < 371 → wrF t 0 s = none → x s = f s) (hk : [0, 1, 2, 7, 11].all (fun s => (wrF t 0 s).isNone) = true) : Lsl E n fb ac aa x := by
  simp only [List.all_cons, List.all_nil, Bool.and_true, Bool.and_eq_true, Option.isNone_iff_eq_none] at hk
  obtain ⟨k0, k1, k2, k7, k11⟩ := hk
  exact ⟨(hx 0 (by omega) k0).trans h.h0, (hx 1 (by omega) k1).trans h.h1, (hx 2 (by omega) k2).trans h.h2, (hx 7 (by omega) k7).trans h.h7, (hx 11 (by omega) k11).trans h.h11⟩

set_option maxHeartbeats 4000000 in
set_option maxRecDepth 100000 in
theorem l28t {F : (Nat → Value) → Act} (hF : Fr 371 F) {w0 w : World} {E : Nat → Nat} {B : Nat → Lb} {n fb ac : Nat} {aa : Option Addr} {D f : Nat → Value} {bk : Nat → Nat} {sc : Nat → Option Nat} {R : Ending → World → Prop}
    (hC : Cfg w0 fb n bk sc) (hQ : Lq w0 w E B n D (pss (cn sc n))) (hn : n ≤ 100000) (hn1 : 1 ≤ n) (hf : Lsl E n fb ac aa f)
    (hR : ∀ w', w0.Since w0.heap.size w' → R (.returned (.pointer (some ⟨E 0, 0, none⟩))) w') :
    ((Ybaz.f19.body.bind (codeAt 28)).getD .skip).wp Ybaz.prog (bodyPost Ybaz.prog Ybaz.f19 R) (F f) w := by
  conv => arg 2; whnf
  have hget := hF.get
  have hmk := hF.up
  have hLn := pss_cn sc n n
  refine wp_seq_hid (fun K HK => ?_)
  refine l28 hF (L := pss (cn sc n) n) (by omega) hf.h11 hQ.b2 rfl hQ.d3 hQ.b1 hQ.st hQ.b0 hf.h7 ?_
  intro x w1 g8 D1 hx hS1 d4 hkp
  have hfx := hf.keep hx (by kernel_rfl)
  refine HK.out _ _ ?_
  clear HK hx hf
  have d3 : D1 3 = .slice (some ⟨E 2, 0, none⟩) (n + 1) (n + 1) := (hkp 3 (by omega)).trans hQ.d3
  have k1 : w1.cell? ⟨E 1, 0, none⟩ = some (.pointer (some ⟨E 0, 0, none⟩)) := hS1.box (k := 1) (by omega) (by rw [upd_other _ _ (by omega), upd_other _ _ (by omega)]; exact hQ.b1)
  have k3 : w1.cell? ⟨E 0, 3, none⟩ = some (.slice (some ⟨E 2, 0, none⟩) (n + 1) (n + 1)) := by rw [← d3]; exact hS1.valAt (k := 0) (by omega) (by rw [upd_other _ _ (by omega), upd_same]) (by omega)
  have hc2 : ∀ j, j < n + 1 → w1.cell? ⟨E 2, j, none⟩ = some (.int .i64 ((pss (cn sc n) j : Nat) : Int)) := fun j hj => hS1.arr (k := 2) (n := n + 1) (f := fun b => ((pss (cn sc n) b : Nat) : Int)) (by omega) (by rw [upd_other _ _ (by omega), upd_other _ _ (by omega)]; exact hQ.b2) hj
  have HCL : Hid _ := clone37 (w := w1) (b := E 2) (n := n) (c := n + 1) (fun j => ((pss (cn sc n) j : Nat) : Int)) hn (fun j hj => hc2 j (by omega))
  have HS1 : Hid (St w0 w1 4 (upd E 3 g8) _) := hS1
  have HFX : Hid (Lsl E n fb ac aa x) := hfx
  have HQQ : Hid (Lq w0 w E B n D (pss (cn sc n))) := hQ
  have HR : Hid (∀ w', w0.Since w0.heap.size w' → R (.returned (.pointer (some ⟨E 0, 0, none⟩))) w') := hR
  have h7 := hfx.h7
  have h11 := hfx.h11
  have hnz : (n : Int) ≤ (n : Int) + 1 := by omega
  clear hS1 hfx hQ hR hc2
  refine wp_seq_hid (fun K HK => ?_)
  go_wp2_with (go_at_call 37; refine Calls.mono HCL.out ?_; rintro e w3 ⟨gg, cap, rfl, hcap, hgg, hsn, hrow⟩; dsimp only)
  refine HK.out _ _ ?_
  clear HK HCL k1 k3
  have hf := HFX.out
  have hs4 := HS1.out.made hsn hgg hrow 4 5 (.inr ⟨rfl, rfl⟩)
  have hs5 := hs4.recast (upd (upd (upd B 0 (vals 122 30 D1)) 3 ⟨3, pss (cn sc n) n, qn n⟩) 4 (nxr n cap (pss (cn sc n)))) (fun k hk => by
    by_cases e4 : k = 4
    · subst e4; rw [upd_same, upd_same]; exact ⟨rfl, rfl, fun i v _ hv => hv⟩
    · rw [upd_other _ _ e4, upd_other _ _ e4]
      by_cases e3 : k = 3
      · subst e3; rw [upd_same, upd_same]; exact ⟨rfl, rfl, fun i v _ hv => ⟨0, hv, hn1⟩⟩
      · rw [upd_other _ _ e3, upd_other _ _ e3]; exact same_lb rfl)
  have hN : Ln w0 w3 (upd (upd E 3 g8) 4 gg) (upd (upd (upd B 0 (vals 122 30 D1)) 3 ⟨3, pss (cn sc n) n, qn n⟩) 4 (nxr n cap (pss (cn sc n)))) n (pss (cn sc n) n) cap (pss (cn sc n)) D1 (pss (cn sc n)) := ⟨hs5, rfl, HQQ.out.b1, HQQ.out.b2, rfl, rfl, d3, d4, hcap⟩
  exact l30t hF (aa := aa) (ac := ac) hC hN hn hn1 ⟨by simp [fup_at, hf.h0], by simp [fup_at, hf.h1], by simp [fup_at, hf.h2], by simp [fup_at, hf.h7]; rfl, by simp [fup_at, hf.h11]⟩ (by simp [fup_at]; rfl) HR.out

set_option maxHeartbeats 4000000 in
set_option maxRecDepth 100000 in
theorem l23t {F : (Nat → Value) → Act} (hF : Fr 371 F) {w0 w : World} {E : Nat → Nat} {B : Nat → Lb} {n fb ac : Nat} {aa : Option Addr} {D f : Nat → Value} {bk : Nat → Nat} {sc : Nat → Option Nat} {R : Ending → World → Prop}
    (hC : Cfg w0 fb n bk sc) (hQ : Lq w0 w E B n D (fun k => if k = 0 then 0 else cn sc n (k - 1))) (hn : n ≤ 100000) (hn1 : 1 ≤ n) (hf : Lsl E n fb ac aa f)
    (hR : ∀ w', w0.Since w0.heap.size w' → R (.returned (.pointer (some ⟨E 0, 0, none⟩))) w') :
    ((Ybaz.f19.body.bind (codeAt 23)).getD .skip).wp Ybaz.prog (bodyPost Ybaz.prog Ybaz.f19 R) (F f) w := by
  conv => arg 2; whnf
  have hget := hF.get
  have hmk := hF.up
  have HR : Hid (∀ w', w0.Since w0.heap.size w' → R (.returned (.pointer (some ⟨E 0, 0, none⟩))) w') := hR
  have hQ0 : ∃ B', Lq w0 w E B' n D (fun k => if k ≤ 0 then pss (cn sc n) k else cn sc n (k - 1)) := ⟨B, by
    have e : (fun k => if k = 0 then 0 else cn sc n (k - 1)) = (fun k => if k ≤ 0 then pss (cn sc n) k else cn sc n (k - 1)) := by
      funext k
      by_cases h : k = 0
      · subst h; rfl
      · rw [if_neg h, if_neg (by omega)]
    rw [← e]; exact hQ⟩
  obtain ⟨B0, hQ0⟩ := hQ0
  have HQ0 : Hid (Lq w0 w E B0 n D (fun k => if k ≤ 0 then pss (cn sc n) k else cn sc n (k - 1))) := hQ0
  have HF : Hid (Lsl E n fb ac aa f) := hf
  have h11 := hf.h11
  clear hR hQ hQ0 hf
  refine wp_seq_hid (fun K HK => ?_)
  refine wp_seq_hid (fun K2 HK2 => ?_)
  go_wp2
  refine HK2.out _ _ ?_
  clear HK2 K2 h11
  have hf := HF.out
  refine wp_block ?_
  refine wp_loop_ghost_k (fun g a w => ∃ f, a = F f ∧ ∃ B' i, g + i = n ∧ Lq w0 w E B' n D (fun k => if k ≤ i then pss (cn sc n) k else cn sc n (k - 1)) ∧ Lsl E n fb ac aa f ∧ f 131 = .int .i64 (n : Nat) ∧ f 132 = .int .i64 (i : Nat)) n ⟨_, rfl, B0, 0, rfl, HQ0.out, ⟨by simp [fup_at, hf.h0], by simp [fup_at, hf.h1], by simp [fup_at, hf.h2], by simp [fup_at, hf.h7], by simp [fup_at, hf.h11]⟩, by simp [fup_at], by simp [fup_at]⟩ ?_
  clear HQ0 HF hf f
  rintro g _ w1 ⟨f, rfl, B1, i, hg, hQ, hf, h131, h132⟩ J K1 hJ hK1
  have HJ : Hid _ := hJ
  have HK1 : Hid (∀ a' w', Handed J g a' w' → K1 a' w') := hK1
  have HQ : Hid (Lq w0 w1 E B1 n D (fun k => if k ≤ i then pss (cn sc n) k else cn sc n (k - 1))) := hQ
  have HF : Hid (Lsl E n fb ac aa f) := hf
  clear hJ hK1 hQ hf
  refine wp_seq_hid (fun Ka HKa => ?_)
  go_wp2
  refine HKa.out _ _ ?_
  clear HKa Ka
  refine wp_seq_hid (fun Kb HKb => ?_)
  have hf := HF.out
  refine hF.cond (by omega) rfl (fun h0 => ?_) (fun h0 => ?_)
  · have hi : i < n := by simpa using h0
    clear h0
    go_wp2
    refine HKb.out _ _ ?_
    clear HKb
    refine wp_seq_hid (fun K2 HK2 => ?_)
    refine wp_block ?_
    refine wp_seq_hid (fun K3 HK3 => ?_)
    go_wp2
    refine HK3.out _ _ ?_
    clear HK3
    have hq := HQ.out
    have k1 := hq.st.box (k := 1) (by omega) hq.b1
    have k3 := hq.st.valAt (k := 0) (by omega) hq.b0 (i := 3) (by omega)
    rw [hq.d3] at k3
    have kd : w1.cell? ⟨E 2, i, none⟩ = some (.int .i64 ((pss (cn sc n) i : Nat) : Int)) := by
      have := hq.st.arr (k := 2) (by omega) hq.b2 (i := i) (by omega)
      rw [if_pos (Nat.le_refl _)] at this
      exact this
    have kc : w1.cell? ⟨E 2, i + 1, none⟩ = some (.int .i64 ((cn sc n i : Nat) : Int)) := by
      have := hq.st.arr (k := 2) (by omega) hq.b2 (i := i + 1) (by omega)
      rw [if_neg (by omega), Nat.add_sub_cancel] at this
      exact this
    have h1 := cn_le sc i n
    have h2 : pss (cn sc n) i ≤ pss (cn sc n) n := pss_mono _ (by omega)
    have h3 := pss_cn sc n n
    refine l26 hF k1 k3 kd kc (hq.st.frz 2 (by omega) (i + 1)) hi hn (by omega) (by omega) (by simp [fup_at, hf.h7]) (by simp [fup_at]) ?_
    intro x hx
    have hfx : Lsl E n fb ac aa x := Lsl.keep (t := opsL (Ybaz.f19.body.bind (regAt 26))) (f := _) ⟨by simp [fup_at, hf.h0], by simp [fup_at, hf.h1], by simp [fup_at, hf.h2], by simp [fup_at, hf.h7], by simp [fup_at, hf.h11]⟩ hx (by kernel_rfl)
    have x131 : x 131 = .int .i64 (n : Nat) := (hx 131 (by omega) (by kernel_rfl)).trans (by simp [fup_at, h131])
    have x132 : x 132 = .int .i64 (i : Nat) := (hx 132 (by omega) (by kernel_rfl)).trans (by simp [fup_at, h132])
    obtain ⟨B3, hq3⟩ := hq.set (s' := fun k => if k ≤ i + 1 then pss (cn sc n) k else cn sc n (k - 1)) (i + 1) (cn sc n i + pss (cn sc n) i) (fun k hk => by
      by_cases e : k = i + 1
      · subst e; rw [upd_same, if_pos (Nat.le_refl _)]; show pss (cn sc n) i + cn sc n i = _; omega
      · rw [upd_other _ _ e]
        by_cases e2 : k ≤ i
        · rw [if_pos e2, if_pos (by omega)]
        · rw [if_neg e2, if_neg (by omega)])
    rw [show ((cn sc n i + pss (cn sc n) i : Nat) : Int) = ((cn sc n i : Nat) : Int) + ((pss (cn sc n) i : Nat) : Int) by omega] at hq3
    have HQ3 : Hid (Lq w0 (w1.drew.setCell ⟨E 2, i + 1, none⟩ (.int .i64 (((cn sc n i : Nat) : Int) + ((pss (cn sc n) i : Nat) : Int)))) E B3 n D (fun k => if k ≤ i + 1 then pss (cn sc n) k else cn sc n (k - 1))) := hq3
    have HFX : Hid (Lsl E n fb ac aa x) := hfx
    refine HK2.out _ _ ?_
    clear HK2 hx hf HF HQ hq hq3 hfx k1 k3 kd kc h131 h132
    generalize w1.drew.setCell ⟨E 2, i + 1, none⟩ (.int .i64 (((cn sc n i : Nat) : Int) + ((pss (cn sc n) i : Nat) : Int))) = w3 at HQ3 ⊢
    go_wp2
    have hf := HFX.out
    exact HK1.out _ _ ⟨g - 1, by omega, HJ.out _ _ _ ⟨_, rfl, B3, i + 1, by omega, HQ3.out, ⟨by simp [fup_at, hf.h0], by simp [fup_at, hf.h1], by simp [fup_at, hf.h2], by simp [fup_at, hf.h7], by simp [fup_at, hf.h11]⟩, by simp [fup_at, x131], by simp [fup_at]⟩⟩
  · have hi : i = n := by
      have : ¬ i < n := by simpa using h0
      omega
    clear h0
    subst hi
    go_wp2
    refine HK.out _ _ ?_
    clear HK HK1 HJ HKb
    have hq := HQ.out
    have hs := hq.st.wkn 2 (arr (i + 1) (fun b => ((pss (cn sc i) b : Nat) : Int))) (by rw [hq.b2]; rfl) (by rw [hq.b2]; rfl) (fun k v hk hv => by
      rw [hq.b2] at hv hk
      have hk' : k < i + 1 := hk
      have hv' : v = .int .i64 (((if k ≤ i then pss (cn sc i) k else cn sc i (k - 1) : Nat)) : Int) := hv
      rw [if_pos (by omega)] at hv'
      exact hv')
    exact l28t hF (D := D) (aa := aa) (ac := ac) hC ⟨hs, by rw [upd_other _ _ (by omega)]; exact hq.b0, by rw [upd_other _ _ (by omega)]; exact hq.b1, upd_same _ _ _, hq.d3⟩ hn hn1 ⟨by simp [fup_at, hf.h0], by simp [fup_at, hf.h1], by simp [fup_at, hf.h2], by simp [fup_at, hf.h7], by simp [fup_at, hf.h11]⟩ HR.out
end Go.Proofs.YbulkexmzaGreat
