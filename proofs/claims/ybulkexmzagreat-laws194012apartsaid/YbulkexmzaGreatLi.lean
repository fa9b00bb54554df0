/-
  Liveness (19): counting edges; from region 30 on (the predecessors are laid).
-/
import Derived.Test.YbulkexmzaGreatLh
namespace Go.Proofs.YbulkexmzaGreat
open Go.RowKit
attribute [local go_sem] fup_at

/-- How many of the first k blocks lead to t. -/
def cn (sc : Nat → Option Nat) : Nat → Nat → Nat
  | 0, _ => 0
  | k + 1, t => cn sc k t + if sc k = some t then 1 else 0
theorem cn_mono (sc : Nat → Option Nat) (t : Nat) {i j : Nat} (h : i ≤ j) : cn sc i t ≤ cn sc j t := by
  induction j with
  | zero => rw [Nat.le_zero.1 h]; exact Nat.le_refl _
  | succ j ih =>
    by_cases e : i = j + 1
    · rw [e]; exact Nat.le_refl _
    · have := ih (by omega)
      simp only [cn]; omega
theorem cn_le (sc : Nat → Option Nat) (t k : Nat) : cn sc k t ≤ k := by
  induction k with
  | zero => exact Nat.le_refl _
  | succ k ih => simp only [cn]; split <;> omega
/-- Sums of g. -/
def pss (g : Nat → Nat) : Nat → Nat
  | 0 => 0
  | t + 1 => pss g t + g t
theorem pss_mono (g : Nat → Nat) {i j : Nat} (h : i ≤ j) : pss g i ≤ pss g j := by
  induction j with
  | zero => rw [Nat.le_zero.1 h]; exact Nat.le_refl _
  | succ j ih =>
    by_cases e : i = j + 1
    · rw [e]; exact Nat.le_refl _
    · have := ih (by omega)
      simp only [pss]; omega
theorem pss_le (g : Nat → Nat) (c : Nat) (hg : ∀ i, g i ≤ c) : ∀ n, pss g n ≤ n * c
  | 0 => by simp [pss]
  | n + 1 => by have := pss_le g c hg n; have := hg n; simp only [pss]; rw [Nat.add_mul]; omega
theorem pf_of (g : Nat → Nat) (n : Nat) : Pf n (pss g n) (pss g) := ⟨fun b _ => pss_mono g (Nat.le_succ b), fun _ hb => pss_mono g hb⟩
/-- All edges: no more than the blocks that lead on. -/
theorem pss_cn (sc : Nat → Option Nat) (n : Nat) : ∀ k, pss (cn sc k) n ≤ k
  | 0 => by
    have : ∀ n, pss (cn sc 0) n = 0 := fun n => by
      induction n with
      | zero => rfl
      | succ n ih => show pss (cn sc 0) n + 0 = 0; rw [ih]
    rw [this]; exact Nat.le_refl _
  | k + 1 => by
    have ih := pss_cn sc n k
    have : ∀ m, pss (cn sc (k + 1)) m ≤ pss (cn sc k) m + 1 := fun m => by
      have gen : ∀ m, pss (cn sc (k + 1)) m ≤ pss (cn sc k) m + (if ∃ t, t < m ∧ sc k = some t then 1 else 0) := fun m => by
        induction m with
        | zero => simp [pss]
        | succ m ihm =>
          simp only [pss, cn]
          by_cases e : sc k = some m
          · have hno : ¬ ∃ t, t < m ∧ sc k = some t := by
              rintro ⟨t, h1, h2⟩
              rw [e] at h2; cases h2; omega
            rw [if_neg hno] at ihm
            rw [if_pos e, if_pos ⟨m, by omega, e⟩]
            have : pss (cn sc (k + 1)) m ≤ pss (cn sc k) m := ihm
            have h2 : pss (fun t => cn sc k t + if sc k = some t then 1 else 0) m = pss (cn sc (k + 1)) m := rfl
            omega
          · rw [if_neg e]
            have hle : (if ∃ t, t < m ∧ sc k = some t then 1 else 0) ≤ (if ∃ t, t < m + 1 ∧ sc k = some t then 1 else 0) := by
              split
              · rename_i h
                obtain ⟨t, h1, h2⟩ := h
                rw [if_pos ⟨t, by omega, h2⟩]; exact Nat.le_refl _
              · omega
            have h2 : pss (fun t => cn sc k t + if sc k = some t then 1 else 0) m = pss (cn sc (k + 1)) m := rfl
            omega
      have := gen m
      split at this <;> omega
    have := this n
    omega

/-- A row of cap cells, the first n of them known. -/
def nxr (n cap : Nat) (z : Nat → Nat) : Lb := ⟨3, cap, fun i u => i < n → u = .int .i64 ((z i : Nat) : Int)⟩
/-- While the predecessors are laid: next is register 4. -/
structure Ln (w0 w : World) (E : Nat → Nat) (B : Nat → Lb) (n L cap : Nat) (pf : Nat → Nat) (D : Nat → Value) (z : Nat → Nat) : Prop where
  st : St w0 w 5 E B
  b0 : B 0 = vals 122 30 D
  b1 : B 1 = bx 74 (.pointer (some ⟨E 0, 0, none⟩))
  b2 : B 2 = arr (n + 1) (fun b => ((pf b : Nat) : Int))
  b3 : B 3 = ⟨3, L, qn n⟩
  b4 : B 4 = nxr n cap z
  d3 : D 3 = .slice (some ⟨E 2, 0, none⟩) (n + 1) (n + 1)
  d4 : D 4 = .slice (some ⟨E 3, 0, none⟩) L L
  nc : n ≤ cap
theorem Ln.cell {w0 w : World} {E : Nat → Nat} {B : Nat → Lb} {n L cap : Nat} {pf : Nat → Nat} {D : Nat → Value} {z : Nat → Nat} (h : Ln w0 w E B n L cap pf D z) {t : Nat} (ht : t < n) : w.cell? ⟨E 4, t, none⟩ = some (.int .i64 (z t : Nat)) := by
  obtain ⟨u, h1, h2⟩ := h.st.read 4 (by omega) (i := t) (by rw [h.b4]; show t < cap; have := h.nc; omega)
  rw [h.b4] at h2
  rw [h1, h2 ht]
theorem Ln.lay {w0 w : World} {E : Nat → Nat} {B : Nat → Lb} {n L cap : Nat} {pf : Nat → Nat} {D : Nat → Value} {z : Nat → Nat} (h : Ln w0 w E B n L cap pf D z) {k b : Nat} (hb : b < n) : Ln w0 (w.setCell ⟨E 3, k, none⟩ (.int .i64 (b : Nat))) E B n L cap pf D z :=
  ⟨h.st.put 3 (by omega) (by rw [h.b3]; exact ⟨b, rfl, hb⟩), h.b0, h.b1, h.b2, h.b3, h.b4, h.d3, h.d4, h.nc⟩
theorem Ln.inc {w0 w : World} {E : Nat → Nat} {B : Nat → Lb} {n L cap : Nat} {pf : Nat → Nat} {D : Nat → Value} {z : Nat → Nat} (h : Ln w0 w E B n L cap pf D z) (t : Nat) : ∃ B', Ln w0 (w.setCell ⟨E 4, t, none⟩ (.int .i64 ((z t : Int) + 1))) E B' n L cap pf D (upd z t (z t + 1)) := by
  have hs := h.st.set 4 (by omega) (nxr n cap (upd z t (z t + 1))) (by rw [h.b4]; rfl) (by rw [h.b4]; rfl) (i := t) (v := .int .i64 ((z t : Int) + 1)) (fun _ => by rw [upd_same]; rfl) (fun j u hj _ hu hjn => by
    rw [h.b4] at hu
    rw [upd_other _ _ hj]; exact hu hjn)
  exact ⟨_, hs, by rw [upd_other _ _ (by omega)]; exact h.b0, by rw [upd_other _ _ (by omega)]; exact h.b1, by rw [upd_other _ _ (by omega)]; exact h.b2, by rw [upd_other _ _ (by omega)]; exact h.b3, upd_same _ _ _, h.d3, h.d4, h.nc⟩
theorem Ln.drew {w0 w : World} {E : Nat → Nat} {B : Nat → Lb} {n L cap : Nat} {pf : Nat → Nat} {D : Nat → Value} {z : Nat → Nat} (h : Ln w0 w E B n L cap pf D z) : Ln w0 w.drew E B n L cap pf D z := ⟨h.st.drew, h.b0, h.b1, h.b2, h.b3, h.b4, h.d3, h.d4, h.nc⟩
theorem Ln.congr {w0 w : World} {E : Nat → Nat} {B : Nat → Lb} {n L cap : Nat} {pf : Nat → Nat} {D : Nat → Value} {z z' : Nat → Nat} (h : Ln w0 w E B n L cap pf D z) (hz : ∀ t, t < n → z' t = z t) : ∃ B', Ln w0 w E B' n L cap pf D z' := by
  have hs := h.st.wkn 4 (nxr n cap z') (by rw [h.b4]; rfl) (by rw [h.b4]; rfl) (fun i v _ hv hi => by
    rw [h.b4] at hv
    rw [hz i hi]; exact hv hi)
  exact ⟨_, hs, by rw [upd_other _ _ (by omega)]; exact h.b0, by rw [upd_other _ _ (by omega)]; exact h.b1, by rw [upd_other _ _ (by omega)]; exact h.b2, by rw [upd_other _ _ (by omega)]; exact h.b3, upd_same _ _ _, h.d3, h.d4, h.nc⟩
/-- The slots. -/
structure Lsl (E : Nat → Nat) (n fb ac : Nat) (aa : Option Addr) (f : Nat → Value) : Prop where
  h0 : f 0 = .pointer (some ⟨fb, 0, none⟩)
  h1 : f 1 = .int .i64 0
  h2 : f 2 = .slice aa 0 ac
  h7 : f 7 = .pointer (some ⟨E 1, 0, none⟩)
  h11 : f 11 = .int .i64 (n : Nat)

set_option maxHeartbeats 4000000 in
set_option maxRecDepth 100000 in
theorem l30t {F : (Nat → Value) → Act} (hF : Fr 371 F) {w0 w : World} {E : Nat → Nat} {B : Nat → Lb} {n cap fb ac : Nat} {aa : Option Addr} {D f : Nat → Value} {bk : Nat → Nat} {sc : Nat → Option Nat} {R : Ending → World → Prop}
    (hC : Cfg w0 fb n bk sc) (hN : Ln w0 w E B n (pss (cn sc n) n) cap (pss (cn sc n)) D (pss (cn sc n))) (hn : n ≤ 100000) (hn1 : 1 ≤ n) (hf : Lsl E n fb ac aa f) (h17 : f 17 = .slice (some ⟨E 4, 0, none⟩) n cap)
    (hR : ∀ w', w0.Since w0.heap.size w' → R (.returned (.pointer (some ⟨E 0, 0, none⟩))) w') :
    ((Ybaz.f19.body.bind (codeAt 30)).getD .skip).wp Ybaz.prog (bodyPost Ybaz.prog Ybaz.f19 R) (F f) w := by
  conv => arg 2; whnf
  have hget := hF.get
  have hmk := hF.up
  have HR : Hid (∀ w', w0.Since w0.heap.size w' → R (.returned (.pointer (some ⟨E 0, 0, none⟩))) w') := hR
  obtain ⟨L, hL⟩ : ∃ L, L = pss (cn sc n) n := ⟨_, rfl⟩
  obtain ⟨pf, hpf⟩ : ∃ pf, pf = pss (cn sc n) := ⟨_, rfl⟩
  have HPF : Hid (L = pss (cn sc n) n ∧ pf = pss (cn sc n)) := ⟨hL, hpf⟩
  rw [← hL, ← hpf] at hN
  have HN : Hid (Ln w0 w E B n L cap pf D pf) := hN
  have HF : Hid (Lsl E n fb ac aa f) := hf
  have hLn : L ≤ n := by rw [hL]; exact pss_cn sc n n
  clear hR hN hf hL hpf
  obtain ⟨bb, bo, bc, kB0, hblk⟩ := hC.blocks
  have kB := old_cell HN.out.st.since kB0
  have h0 := HF.out.h0
  refine wp_seq_hid (fun K HK => ?_)
  refine wp_seq_hid (fun K2 HK2 => ?_)
  go_wp2
  refine HK2.out _ _ ?_
  clear HK2 K2 kB kB0
  have hf := HF.out
  refine wp_block ?_
  refine wp_loop_ghost_k (fun g a w => ∃ f, a = F f ∧ ∃ B' i, g + i = n ∧ Ln w0 w E B' n L cap pf D (fun t => pf t + cn sc i t) ∧ Lsl E n fb ac aa f ∧ f 17 = .slice (some ⟨E 4, 0, none⟩) n cap ∧ f 174 = .slice (some ⟨bb, bo, none⟩) n bc ∧ f 175 = .int .i64 (n : Nat) ∧ f 176 = .int .i64 (i : Nat)) n ⟨_, rfl, B, 0, rfl, HN.out, ⟨by simp [fup_at, hf.h0], by simp [fup_at, hf.h1], by simp [fup_at, hf.h2], by simp [fup_at, hf.h7], by simp [fup_at, hf.h11]⟩, by simp [fup_at, h17], by simp [fup_at], by simp [fup_at], by simp [fup_at]⟩ ?_
  clear HN HF hf h17 h0 f
  rintro g _ w1 ⟨f, rfl, B1, i, hg, hN, hf, h17, h174, h175, h176⟩ J K1 hJ hK1
  have HJ : Hid _ := hJ
  have HK1 : Hid (∀ a' w', Handed J g a' w' → K1 a' w') := hK1
  have HN : Hid (Ln w0 w1 E B1 n L cap pf D (fun t => pf t + cn sc i t)) := hN
  have HF : Hid (Lsl E n fb ac aa f) := hf
  clear hJ hK1 hN hf
  refine wp_seq_hid (fun Ka HKa => ?_)
  go_wp2
  refine HKa.out _ _ ?_
  clear HKa Ka
  refine wp_seq_hid (fun Kb HKb => ?_)
  refine hF.cond (by omega) rfl (fun h0 => ?_) (fun h0 => ?_)
  · have hi : i < n := by simpa using h0
    have hiz : (i : Int) < (n : Int) := by omega
    clear h0
    go_wp2
    refine HKb.out _ _ ?_
    clear HKb
    have kblk := old_cell HN.out.st.since (hblk i hi)
    have kid := old_cell HN.out.st.since (hC.id i hi)
    refine wp_seq_hid (fun K2 HK2 => ?_)
    refine wp_block ?_
    refine wp_seq_hid (fun K3 HK3 => ?_)
    go_wp2
    refine HK3.out _ _ ?_
    clear HK3
    -- the end of the round
    have HEND : Hid (∀ (y : Nat → Value) (w3 : World) (B3 : Nat → Lb), Ln w0 w3 E B3 n L cap pf D (fun t => pf t + cn sc (i + 1) t) → Lsl E n fb ac aa y → y 17 = .slice (some ⟨E 4, 0, none⟩) n cap → y 174 = .slice (some ⟨bb, bo, none⟩) n bc → y 175 = .int .i64 (n : Nat) → y 176 = .int .i64 (i : Nat) → K2 (F y) w3) := ?hend
    case hend =>
      clear kblk kid h17 h174 h175 h176
      intro y w3 B3 hN3 hf3 y17 y174 y175 y176
      refine HK2.out _ _ ?_
      clear HK2
      have HN3 : Hid (Ln w0 w3 E B3 n L cap pf D (fun t => pf t + cn sc (i + 1) t)) := hN3
      have HF3 : Hid (Lsl E n fb ac aa y) := hf3
      clear hN3 hf3
      go_wp2
      have hf := HF3.out
      exact HK1.out _ _ ⟨g - 1, by omega, HJ.out _ _ _ ⟨_, rfl, B3, i + 1, by omega, HN3.out, ⟨by simp [fup_at, hf.h0], by simp [fup_at, hf.h1], by simp [fup_at, hf.h2], by simp [fup_at, hf.h7], by simp [fup_at, hf.h11]⟩, by simp [fup_at, y17], by simp [fup_at, y174], by simp [fup_at, y175], by simp [fup_at]⟩⟩
    rcases hC.succ i hi with ⟨hs, ks0⟩ | ⟨t, sb, so, c, hs, ht, ks0, kt0⟩
    · have ks := old_cell HN.out.st.since ks0
      refine wp_seq_hid (fun K3 HK3 => ?_)
      go_wp2
      refine HK3.out _ _ ?_
      clear HK3
      refine wp_block ?_
      refine wp_loop_once ?_
      refine wp_seq_hid (fun K3 HK3 => ?_)
      go_wp2
      refine HK3.out _ _ ?_
      clear HK3
      refine wp_seq_hid (fun K3 HK3 => ?_)
      refine hF.cond (by omega) rfl (fun h => by cases h) (fun h => ?_)
      clear HK3 h
      go_wp2
      have hf := HF.out
      obtain ⟨B3, hN3⟩ := HN.out.congr (z' := fun t => pf t + cn sc (i + 1) t) (fun t _ => by simp [cn, hs])
      exact HEND.out _ _ B3 hN3 ⟨by simp [fup_at, hf.h0], by simp [fup_at, hf.h1], by simp [fup_at, hf.h2], by simp [fup_at, hf.h7], by simp [fup_at, hf.h11]⟩ (by simp [fup_at, h17]) (by simp [fup_at, h174]) (by simp [fup_at, h175]) (by simp [fup_at, h176])
    · have ks := old_cell HN.out.st.since ks0
      refine wp_seq_hid (fun K3 HK3 => ?_)
      go_wp2
      refine HK3.out _ _ ?_
      clear HK3 ks ks0
      have hf := HF.out
      refine wp_block ?_
      refine wp_loop_ghost_k (fun g a w => ∃ f, a = F f ∧ ∃ B' j, g + j = 1 ∧ Ln w0 w E B' n L cap pf D (fun u => pf u + cn sc (i + j) u) ∧ Lsl E n fb ac aa f ∧ f 17 = .slice (some ⟨E 4, 0, none⟩) n cap ∧ f 174 = .slice (some ⟨bb, bo, none⟩) n bc ∧ f 175 = .int .i64 (n : Nat) ∧ f 176 = .int .i64 (i : Nat) ∧ f 19 = .pointer (some ⟨bk i, 0, none⟩) ∧ f 183 = .slice (some ⟨sb, so, none⟩) 1 c ∧ f 184 = .int .i64 1 ∧ f 185 = .int .i64 (j : Nat)) 1 ⟨_, rfl, B1, 0, rfl, HN.out, ⟨by simp [fup_at, hf.h0], by simp [fup_at, hf.h1], by simp [fup_at, hf.h2], by simp [fup_at, hf.h7], by simp [fup_at, hf.h11]⟩, by simp [fup_at, h17], by simp [fup_at, h174], by simp [fup_at, h175], by simp [fup_at, h176], by simp [fup_at], by simp [fup_at], by simp [fup_at], by simp [fup_at]⟩ ?_
      clear HN HF hf h17 h174 h175 h176 kblk kid f
      rintro g2 _ w2 ⟨f, rfl, B2, j, hg2, hN, hf, h17, h174, h175, h176, h19, h183, h184, h185⟩ J2 K4 hJ2 hK4
      have HJ2 : Hid _ := hJ2
      have HK4 : Hid (∀ a' w', Handed J2 g2 a' w' → K4 a' w') := hK4
      have HN : Hid (Ln w0 w2 E B2 n L cap pf D (fun u => pf u + cn sc (i + j) u)) := hN
      have HF : Hid (Lsl E n fb ac aa f) := hf
      clear hJ2 hK4 hN hf
      refine wp_seq_hid (fun Ka HKa => ?_)
      by_cases hj : j = 0
      · subst hj
        go_wp2
        refine HKa.out _ _ ?_
        clear HKa
        refine wp_seq_hid (fun Kb HKb => ?_)
        refine hF.cond (by omega) rfl (fun h0 => ?_) (fun h0 => by cases h0)
        clear h0
        go_wp2
        refine HKb.out _ _ ?_
        clear HKb
        refine wp_seq_hid (fun K3 HK3 => ?_)
        refine wp_block ?_
        refine wp_seq_hid (fun K5 HK5 => ?_)
        have kt := old_cell HN.out.st.since kt0
        go_wp2
        refine HK5.out _ _ ?_
        clear HK5 kt
        obtain ⟨zt, hzt⟩ : ∃ zt, zt = pf t + cn sc i t := ⟨_, rfl⟩
        have hn0 : Ln w0 w2 E B2 n L cap pf D (fun u => pf u + cn sc i u) := HN.out
        have kz : w2.cell? ⟨E 4, t, none⟩ = some (.int .i64 (zt : Nat)) := by rw [hn0.cell ht, hzt]
        have hztL : zt < L := by
          have h1 : cn sc (i + 1) t ≤ cn sc n t := cn_mono sc t (by omega)
          have h2 : cn sc (i + 1) t = cn sc i t + 1 := by simp [cn, hs]
          have h3 : pss (cn sc n) (t + 1) ≤ pss (cn sc n) n := pss_mono _ (by omega)
          have h4 : pss (cn sc n) (t + 1) = pss (cn sc n) t + cn sc n t := rfl
          obtain ⟨h5, h6⟩ := HPF.out
          rw [hzt, h6, h5]
          omega
        have k1 := hn0.st.box (k := 1) (by omega) hn0.b1
        have k4 := hn0.st.valAt (k := 0) (by omega) hn0.b0 (i := 4) (by omega)
        rw [hn0.d4] at k4
        have kti := old_cell hn0.st.since (hC.id t ht)
        have kii := old_cell hn0.st.since (hC.id i hi)
        obtain ⟨u3, ku3, _⟩ := hn0.st.read 3 (by omega) (i := zt) (by rw [hn0.b3]; exact hztL)
        have kf3 := hn0.st.frz 3 (by omega) zt
        have hN2 := (hn0.lay (k := zt) hi).drew
        have kz2 : (w2.setCell ⟨E 3, zt, none⟩ (.int .i64 (i : Nat))).drew.cell? ⟨E 4, t, none⟩ = some (.int .i64 (zt : Nat)) := (hn0.st.far 3 4 (by omega) (by omega) (by omega) _ _ _).trans kz
        obtain ⟨B4, hN4⟩ := hN2.inc t
        rw [← hzt] at hN4
        have HN4 : Hid (Ln w0 ((w2.setCell ⟨E 3, zt, none⟩ (.int .i64 (i : Nat))).drew.setCell ⟨E 4, t, none⟩ (.int .i64 ((zt : Int) + 1))) E B4 n L cap pf D (upd (fun u => pf u + cn sc i u) t (zt + 1))) := hN4
        have kf4 := hN2.st.frz 4 (by omega) t
        have kti2 := old_cell hN2.st.since (hC.id t ht)
        have HZT : Hid (zt = pf t + cn sc i t) := hzt
        have hzz : (zt : Int) < (L : Int) := by omega
        have htz : (t : Int) < (n : Int) := by omega
        have h7 := HF.out.h7
        clear hn0 hN2 hN4 hzt
        refine wp_seq_hid (fun K5 HK5 => ?_)
        go_still_tail 15, (by kernel_rfl)
        go_wp2
        refine HK5.out _ _ ?_
        clear HK5 k1 k4 kz kti kii ku3 kf3
        obtain ⟨w4, hw4⟩ : ∃ w4, w4 = (w2.setCell ⟨E 3, zt, none⟩ (.int .i64 (i : Nat))).drew := ⟨_, rfl⟩
        rw [← hw4] at HN4 kz2 kf4 kti2
        have hw5 : w2.drew.setCell ⟨E 3, zt, none⟩ (.int .i64 (i : Nat)) = w4 := by rw [hw4]; rfl
        try rw [← hw4]
        try rw [hw5]
        clear hw4 hw5
        go_wp2
        refine HK3.out _ _ ?_
        clear HK3 kz2 kf4 kti2
        generalize w4.setCell ⟨E 4, t, none⟩ (.int .i64 ((zt : Int) + 1)) = w5 at HN4 ⊢
        go_wp2
        have hf := HF.out
        obtain ⟨B5, hN5⟩ := HN4.out.congr (z' := fun u => pf u + cn sc (i + 1) u) (fun u _ => by
          by_cases e : u = t
          · subst e; rw [upd_same]; simp [cn, hs, HZT.out]; omega
          · rw [upd_other _ _ e]
            have : ¬ sc i = some u := fun e' => e (by rw [hs] at e'; cases e'; rfl)
            simp [cn, this])
        exact HK4.out _ _ ⟨0, by omega, HJ2.out _ _ _ ⟨_, rfl, B5, 1, rfl, hN5, ⟨by simp [fup_at, hf.h0], by simp [fup_at, hf.h1], by simp [fup_at, hf.h2], by simp [fup_at, hf.h7], by simp [fup_at, hf.h11]⟩, by simp [fup_at, h17], by simp [fup_at, h174], by simp [fup_at, h175], by simp [fup_at, h176], by simp [fup_at, h19], by simp [fup_at, h183], by simp [fup_at, h184], by simp [fup_at]⟩⟩
      · have hj1 : j = 1 := by omega
        subst hj1
        go_wp2
        refine HKa.out _ _ ?_
        clear HKa
        refine wp_seq_hid (fun Kb HKb => ?_)
        refine hF.cond (by omega) rfl (fun h0 => by cases h0) (fun h0 => ?_)
        clear h0 HKb
        go_wp2
        have hf := HF.out
        exact HEND.out _ _ B2 HN.out ⟨by simp [fup_at, hf.h0], by simp [fup_at, hf.h1], by simp [fup_at, hf.h2], by simp [fup_at, hf.h7], by simp [fup_at, hf.h11]⟩ (by simp [fup_at, h17]) (by simp [fup_at, h174]) (by simp [fup_at, h175]) (by simp [fup_at, h176])
  · have hi : i = n := by
      have : ¬ i < n := by simpa using h0
      omega
    clear h0
    subst hi
    go_wp2
    refine HK.out _ _ ?_
    clear HK HK1 HJ HKb
    have hf := HF.out
    have hnn := HN.out
    have hp := pf_of (cn sc i) i
    obtain ⟨h5, h6⟩ := HPF.out
    rw [← h5, ← h6] at hp
    exact l40t hF (D := D) (aa := aa) (ac := ac) hC ⟨hnn.st.less (by omega), hnn.b0, hnn.b1, hnn.b2, hnn.b3, hnn.d3, hnn.d4⟩ hp (by omega) hn hn1 (by simp [fup_at, hf.h0]) (by simp [fup_at, hf.h1]) (by simp [fup_at, hf.h2]) (by simp [fup_at, hf.h7]) (by simp [fup_at, hf.h11]) HR.out
end Go.Proofs.YbulkexmzaGreat
