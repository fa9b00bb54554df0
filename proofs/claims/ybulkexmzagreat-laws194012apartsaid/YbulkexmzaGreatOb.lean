/-
  THE LAW of predecessors (9).
-/
import Derived.Test.YbulkexmzaGreatOa
namespace Go.Proofs.YbulkexmzaGreat
open Go.RowKit
attribute [local go_sem] fup_at

/-- How many edges lead to k among those of the first i blocks, the start's one more. -/
def pd (sc : Nat → Option Nat) (i k : Nat) : Nat := (if k = 0 then 1 else 0) + cn sc i k
structure Pq (w0 w : World) (g n : Nat) (z : Nat → Nat) : Prop where
  s : w0.Since w0.heap.size w
  b : w0.heap.size ≤ g
  row : RowOk w g (arr n (fun k => ((z k : Nat) : Int)))
theorem Pq.cell {w0 w : World} {g n : Nat} {z : Nat → Nat} (h : Pq w0 w g n z) {k : Nat} (hk : k < n) : w.cell? ⟨g, k, none⟩ = some (.int .i64 (z k : Nat)) := by
  obtain ⟨u, h1, h2⟩ := h.row.cell (i := k) hk
  have : u = .int .i64 ((z k : Nat) : Int) := h2
  rw [h1, this]
theorem Pq.set {w0 w : World} {g n : Nat} {z z' : Nat → Nat} (h : Pq w0 w g n z) (t v : Nat) (hz : ∀ k, k < n → z' k = upd z t v k) : Pq w0 (w.setCell ⟨g, t, none⟩ (.int .i64 (v : Nat))) g n z' := by
  refine ⟨h.s.setCell h.b _, h.b, ?_⟩
  have hr := h.row.set (arr n (fun k => ((upd z t v k : Nat) : Int))) rfl rfl (i := t) (v := .int .i64 (v : Nat)) (by show _ = Value.int .i64 ((upd z t v t : Nat) : Int); rw [upd_same]) (fun j u hj _ hu => by
    have hu' : u = .int .i64 ((z j : Nat) : Int) := hu
    show u = .int .i64 ((upd z t v j : Nat) : Int)
    rw [hu', upd_other _ _ hj])
  exact hr.wkn rfl rfl (fun k v hk hv => by
    have hk' : k < n := hk
    show v = .int .i64 ((z' k : Nat) : Int)
    rw [hz k hk']; exact hv)

set_option maxHeartbeats 4000000 in
set_option maxRecDepth 100000 in
theorem p0t {F : (Nat → Value) → Act} (hF : Fr 46 F) {w0 : World} {n fb : Nat} {f : Nat → Value} {bk : Nat → Nat} {sc : Nat → Option Nat} {R : Ending → World → Prop}
    (hC : Cfg w0 fb n bk sc) (hn : n ≤ 100000) (hn1 : 1 ≤ n) (h0 : f 0 = .pointer (some ⟨fb, 0, none⟩))
    (hR : ∀ g w', Pq w0 w' g n (pd sc n) → R (.returned (.slice (some ⟨g, 0, none⟩) n n)) w') :
    (Ybaz.f9.body.getD .skip).wp Ybaz.prog (bodyPost Ybaz.prog Ybaz.f9 R) (F f) w0 := by
  conv => arg 2; whnf
  have hget := hF.get
  have hmk := hF.up
  have HR : Hid (∀ g w', Pq w0 w' g n (pd sc n) → R (.returned (.slice (some ⟨g, 0, none⟩) n n)) w') := hR
  obtain ⟨bb, bo, bc, kB0, hblk⟩ := hC.blocks
  have hmake := run_mk mty46 n n (Nat.le_refl _) (by omega)
  clear hR
  refine wp_seq_hid (fun K HK => ?_)
  go_wp2
  refine HK.out _ _ ?_
  clear HK
  refine wp_seq_hid (fun K HK => ?_)
  go_wp2
  refine HK.out _ _ ?_
  clear HK hmake
  have hP0 : Pq w0 (w0.alloc (.cells (madeCells #[.int .i64 0] n) 3)) w0.heap.size n (fun _ => 0) := ⟨alloc_since _ _, Nat.le_refl _, (rowOk_z w0 (.int .i64 0) n 3).wkn rfl rfl (fun i v _ hv => hv)⟩
  obtain ⟨g0, hg0⟩ : ∃ a, a = w0.heap.size := ⟨_, rfl⟩
  have HKB : Hid (w0.cell? ⟨fb, 11, none⟩ = some (.slice (some ⟨bb, bo, none⟩) n bc)) := kB0
  rw [← hg0]
  have hP0 : Pq w0 (w0.alloc (.cells (madeCells #[.int .i64 0] n) 3)) g0 n (fun _ => 0) := by rw [hg0]; exact hP0
  clear hg0 kB0
  generalize w0.alloc (.cells (madeCells #[.int .i64 0] n) 3) = w1 at hP0 ⊢
  have k0 := hP0.cell (k := 0) (by omega)
  have kf := hP0.row.frozen 0
  have hnz : (0 : Int) < (n : Int) := by omega
  have hP1 := hP0.set (z' := pd sc 0) 0 1 (fun k _ => by
    unfold pd
    by_cases e : k = 0
    · subst e; rw [upd_same]; rfl
    · rw [upd_other _ _ e, if_neg e]; rfl)
  have HP1 : Hid (Pq w0 (w1.setCell ⟨g0, 0, none⟩ (.int .i64 ((1 : Nat) : Int))) g0 n (pd sc 0)) := hP1
  clear hP0 hP1
  refine wp_seq_hid (fun K HK => ?_)
  go_wp2
  refine HK.out _ _ ?_
  clear HK k0 kf
  have HP2 : Hid (Pq w0 (w1.setCell ⟨g0, 0, none⟩ (.int .i64 1)) g0 n (pd sc 0)) := HP1.out
  clear HP1
  generalize w1.setCell ⟨g0, 0, none⟩ (.int .i64 1) = w2 at HP2 ⊢
  have kB := old_cell HP2.out.s HKB.out
  refine wp_seq_hid (fun K HK => ?_)
  refine wp_seq_hid (fun K2 HK2 => ?_)
  go_wp2
  refine HK2.out _ _ ?_
  clear HK2 kB
  refine wp_block ?_
  refine wp_loop_ghost_k (fun g a w => ∃ f, a = F f ∧ ∃ i, g + i = n ∧ Pq w0 w g0 n (pd sc i) ∧ f 3 = .slice (some ⟨g0, 0, none⟩) n n ∧ f 19 = .slice (some ⟨bb, bo, none⟩) n bc ∧ f 20 = .int .i64 (n : Nat) ∧ f 21 = .int .i64 (i : Nat)) n ⟨_, rfl, 0, rfl, HP2.out, by simp [fup_at], by simp [fup_at], by simp [fup_at], by simp [fup_at]⟩ ?_
  clear HP2 h0 f
  rintro g _ w3 ⟨f, rfl, i, hg, hP, h3, h19, h20, h21⟩ J K1 hJ hK1
  have HJ : Hid _ := hJ
  have HK1 : Hid (∀ a' w', Handed J g a' w' → K1 a' w') := hK1
  have HP : Hid (Pq w0 w3 g0 n (pd sc i)) := hP
  clear hJ hK1 hP
  refine wp_seq_hid (fun Ka HKa => ?_)
  go_wp2
  refine HKa.out _ _ ?_
  clear HKa
  refine wp_seq_hid (fun Kb HKb => ?_)
  refine hF.cond (by omega) rfl (fun hh => ?_) (fun hh => ?_)
  · have hi : i < n := by simpa using hh
    have hiz : (i : Int) < (n : Int) := by omega
    clear hh
    go_wp2
    refine HKb.out _ _ ?_
    clear HKb
    have kblk := old_cell HP.out.s (hblk i hi)
    refine wp_seq_hid (fun K2 HK2 => ?_)
    refine wp_block ?_
    refine wp_seq_hid (fun K3 HK3 => ?_)
    go_wp2
    refine HK3.out _ _ ?_
    clear HK3
    have HEND : Hid (∀ (y : Nat → Value) (w4 : World), Pq w0 w4 g0 n (pd sc (i + 1)) → y 3 = .slice (some ⟨g0, 0, none⟩) n n → y 19 = .slice (some ⟨bb, bo, none⟩) n bc → y 20 = .int .i64 (n : Nat) → y 21 = .int .i64 (i : Nat) → K2 (F y) w4) := ?hend
    case hend =>
      clear kblk h3 h19 h20 h21
      intro y w4 hP4 y3 y19 y20 y21
      refine HK2.out _ _ ?_
      clear HK2
      have HP4 : Hid (Pq w0 w4 g0 n (pd sc (i + 1))) := hP4
      clear hP4
      go_wp2
      exact HK1.out _ _ ⟨g - 1, by omega, HJ.out _ _ _ ⟨_, rfl, i + 1, by omega, HP4.out, by simp [fup_at, y3], by simp [fup_at, y19], by simp [fup_at, y20], by simp [fup_at]⟩⟩
    rcases hC.succ i hi with ⟨hs, ks0⟩ | ⟨t, sb, so, c, hs, ht, ks0, kt0⟩
    · have ks := old_cell HP.out.s ks0
      refine wp_seq_hid (fun K3 HK3 => ?_)
      go_wp2
      refine HK3.out _ _ ?_
      clear HK3
      refine wp_block ?_
      refine wp_loop_once ?_
      refine wp_seq_hid (fun K3 HK3 => ?_)
      go_wp2
      refine HK3.out _ _ ?_
      clear HK3
      refine wp_seq_hid (fun K3 HK3 => ?_)
      refine hF.cond (by omega) rfl (fun h => by cases h) (fun h => ?_)
      clear HK3 h
      go_wp2
      have hpd : pd sc (i + 1) = pd sc i := by funext k; unfold pd; simp [cn, hs]
      exact HEND.out _ _ (by rw [hpd]; exact HP.out) (by simp [fup_at, h3]) (by simp [fup_at, h19]) (by simp [fup_at, h20]) (by simp [fup_at, h21])
    · have ks := old_cell HP.out.s ks0
      refine wp_seq_hid (fun K3 HK3 => ?_)
      go_wp2
      refine HK3.out _ _ ?_
      clear HK3 ks ks0
      refine wp_block ?_
      refine wp_loop_ghost_k (fun g a w => ∃ f, a = F f ∧ ∃ j, g + j = 1 ∧ Pq w0 w g0 n (pd sc (i + j)) ∧ f 3 = .slice (some ⟨g0, 0, none⟩) n n ∧ f 19 = .slice (some ⟨bb, bo, none⟩) n bc ∧ f 20 = .int .i64 (n : Nat) ∧ f 21 = .int .i64 (i : Nat) ∧ f 28 = .slice (some ⟨sb, so, none⟩) 1 c ∧ f 29 = .int .i64 1 ∧ f 30 = .int .i64 (j : Nat)) 1 ⟨_, rfl, 0, rfl, HP.out, by simp [fup_at, h3], by simp [fup_at, h19], by simp [fup_at, h20], by simp [fup_at, h21], by simp [fup_at], by simp [fup_at], by simp [fup_at]⟩ ?_
      clear HP h3 h19 h20 h21 kblk f
      rintro g2 _ w4 ⟨f, rfl, j, hg2, hP, h3, h19, h20, h21, h28, h29, h30⟩ J2 K4 hJ2 hK4
      have HJ2 : Hid _ := hJ2
      have HK4 : Hid (∀ a' w', Handed J2 g2 a' w' → K4 a' w') := hK4
      have HP : Hid (Pq w0 w4 g0 n (pd sc (i + j))) := hP
      clear hJ2 hK4 hP
      refine wp_seq_hid (fun Ka HKa => ?_)
      by_cases hj : j = 0
      · subst hj
        go_wp2
        refine HKa.out _ _ ?_
        clear HKa
        refine wp_seq_hid (fun Kb HKb => ?_)
        refine hF.cond (by omega) rfl (fun h0 => ?_) (fun h0 => by cases h0)
        clear h0
        go_wp2
        refine HKb.out _ _ ?_
        clear HKb
        have hp : Pq w0 w4 g0 n (pd sc i) := HP.out
        have kt := old_cell hp.s kt0
        have kti := old_cell hp.s (hC.id t ht)
        obtain ⟨c0, hc0⟩ : ∃ c0, c0 = pd sc i t := ⟨_, rfl⟩
        have kc : w4.cell? ⟨g0, t, none⟩ = some (.int .i64 (c0 : Nat)) := by rw [hc0]; exact hp.cell ht
        have kf := hp.row.frozen t
        have htz : (t : Int) < (n : Int) := by omega
        have hcl : c0 ≤ 200000 := by
          have := cn_le sc t i
          rw [hc0]; unfold pd; split <;> omega
        have hP5 := hp.set (z' := pd sc (i + 1)) t (c0 + 1) (fun k _ => by
          by_cases e : k = t
          · subst e; rw [upd_same, hc0]; unfold pd; simp [cn, hs]; omega
          · rw [upd_other _ _ e]
            unfold pd
            have : ¬ sc i = some k := fun e' => e (by rw [hs] at e'; cases e'; rfl)
            simp [cn, this])
        rw [show ((c0 + 1 : Nat) : Int) = (c0 : Int) + 1 by omega] at hP5
        have HP5 : Hid (Pq w0 (w4.setCell ⟨g0, t, none⟩ (.int .i64 ((c0 : Int) + 1))) g0 n (pd sc (i + 1))) := hP5
        clear hP5 hp hc0
        refine wp_seq_hid (fun K3 HK3 => ?_)
        refine wp_block ?_
        refine wp_seq_hid (fun K5 HK5 => ?_)
        go_wp2
        refine HK5.out _ _ ?_
        clear HK5 kt
        go_wp2
        refine HK3.out _ _ ?_
        clear HK3 kc kf kti
        generalize w4.setCell ⟨g0, t, none⟩ (.int .i64 ((c0 : Int) + 1)) = w5 at HP5 ⊢
        go_wp2
        exact HK4.out _ _ ⟨0, by omega, HJ2.out _ _ _ ⟨_, rfl, 1, rfl, HP5.out, by simp [fup_at, h3], by simp [fup_at, h19], by simp [fup_at, h20], by simp [fup_at, h21], by simp [fup_at, h28], by simp [fup_at, h29], by simp [fup_at]⟩⟩
      · have hj1 : j = 1 := by omega
        subst hj1
        go_wp2
        refine HKa.out _ _ ?_
        clear HKa
        refine wp_seq_hid (fun Kb HKb => ?_)
        refine hF.cond (by omega) rfl (fun h0 => by cases h0) (fun h0 => ?_)
        clear h0 HKb
        go_wp2
        exact HEND.out _ _ HP.out (by simp [fup_at, h3]) (by simp [fup_at, h19]) (by simp [fup_at, h20]) (by simp [fup_at, h21])
  · have hi : i = n := by
      have : ¬ i < n := by simpa using hh
      omega
    clear hh HKb
    subst hi
    go_wp2
    refine HK.out _ _ ?_
    clear HK HK1 HJ
    go_wp2
    exact hF.ret (t := 2) rfl (by omega) (by simp [fup_at]) (HR.out _ _ HP.out)

set_option maxRecDepth 100000 in
theorem pred_any {w0 : World} {n fb : Nat} {bk : Nat → Nat} {sc : Nat → Option Nat} (hC : Cfg w0 fb n bk sc) (hn : n ≤ 100000) (hn1 : 1 ≤ n) :
    Calls Ybaz.prog 9 #[.pointer (some ⟨fb, 0, none⟩)] w0 fun e w' => ∃ g, e = .returned (.slice (some ⟨g, 0, none⟩) n n) ∧ Pq w0 w' g n (pd sc n) := by
  refine calls_of_wp Ybaz.func9 rfl ?_
  rw [(frm_fr 46).of (Act.mk _ _) (by simp [Ybaz.ntmps9]) rfl]
  exact p0t (frm_fr 46) hC hn hn1 (by simp) (fun g w' h => ⟨g, rfl, h⟩)
end Go.Proofs.YbulkexmzaGreat
