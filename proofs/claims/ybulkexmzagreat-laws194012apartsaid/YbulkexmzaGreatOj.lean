/-
  THE LAW of sink.order (11).
-/
import Derived.Test.YbulkexmzaGreatOi
namespace Go.Proofs.YbulkexmzaGreat
open Go.RowKit Go.Shelf
attribute [local go_sem] Oper.semAt_some fup_at

set_option maxHeartbeats 4000000 in
set_option maxRecDepth 100000 in
theorem o0 {G : List Deferred → (Nat → Value) → Act} (hG : ∀ ds, Frd 175 ds (G ds)) (hre : ∀ ds ds' f, (⟨(G ds f).tmps, ds'⟩ : Act) = G ds' f) {w0 : World} {n fb : Nat} {bk kd : Nat → Nat} {sc : Nat → Option Nat} {pa : Option Addr} {pl pc : Nat} {f : Nat → Value} {R : Ending → World → Prop}
    (hC : Cfg w0 fb n bk sc) (hkc : ∀ k, k < n → w0.cell? ⟨bk k, 2, none⟩ = some (.int .u8 (kd k : Nat)) ∧ kd k ≠ 1) (hn : n ≤ 100000) (hn1 : 1 ≤ n)
    (h0 : f 0 = .pointer (some ⟨fb, 0, none⟩)) (h1 : f 1 = .slice pa pl pc)
    (hR : ∀ v w', OrdOk w0 w' n bk v → R (.returned v) w') :
    (Ybaz.f11.body.getD .skip).wp Ybaz.prog (bodyPostM Fence.wide 9 Ybaz.prog Ybaz.f11 R) (G [] f) w0 := by
  conv => arg 2; whnf
  have hget := (hG []).get
  have hmk := (hG []).up
  obtain ⟨bb, bo, bc, kB0, hblk⟩ := hC.blocks
  have HKB : Hid (w0.cell? ⟨fb, 11, none⟩ = some (.slice (some ⟨bb, bo, none⟩) n bc)) := kB0
  clear kB0
  refine wp_seq_hid (fun K HK => ?_)
  go_wp2
  refine HK.out _ _ ?_
  clear HK
  refine wp_seq_hid (fun K HK => ?_)
  go_wp2
  refine HK.out _ _ ?_
  clear HK
  obtain ⟨E, B, hS, b0, b1, e0, e1⟩ : ∃ E B, St w0 ((w0.alloc (.cells #[.slice pa pl pc] 46)).alloc (.cells #[.func (.func 24) #[] #[.pointer (some ⟨w0.heap.size, 0, none⟩)]] 102)) 2 E B ∧ B 0 = bx 46 (.slice pa pl pc) ∧ B 1 = bx 102 (.func (.func 24) #[] #[.pointer (some ⟨E 0, 0, none⟩)]) ∧ w0.heap.size = E 0 ∧ w0.heap.size + 1 = E 1 := by
    have s1 := (St.start w0 (fun _ => 0) (fun _ => bx 0 undef)).new #[.slice pa pl pc] 46 0 1 (.inr ⟨rfl, rfl⟩) (bx 46 (.slice pa pl pc)) rfl rfl (fun j u hu => by
        match j, hu with
        | 0, hu => simp at hu; exact hu.symm)
    have s2 := s1.new #[.func (.func 24) #[] #[.pointer (some ⟨w0.heap.size, 0, none⟩)]] 102 1 2 (.inr ⟨rfl, rfl⟩) (bx 102 (.func (.func 24) #[] #[.pointer (some ⟨w0.heap.size, 0, none⟩)])) rfl rfl (fun j u hu => by
        match j, hu with
        | 0, hu => simp at hu; exact hu.symm)
    refine ⟨_, _, s2, ?_, ?_, ?_, ?_⟩
    · rw [upd_other _ _ (by omega), upd_same]
    · rw [upd_same, upd_other _ _ (by omega), upd_same]
    · rw [upd_other _ _ (by omega), upd_same]
    · rw [upd_same]; exact (Array.size_push ..).symm
  rw [e1]
  rw [e0] at hS ⊢
  generalize (w0.alloc (.cells #[.slice pa pl pc] 46)).alloc (.cells #[.func (.func 24) #[] #[.pointer (some ⟨E 0, 0, none⟩)]] 102) = w1 at hS ⊢
  clear e0 e1
  have kB := old_cell hS.since HKB.out
  have hm70 := run_mk mty70 n n (Nat.le_refl _) (by omega)
  have HS : Hid (St w0 w1 2 E B) := hS
  clear hS
  refine wp_seq_hid (fun K HK => ?_)
  go_wp2
  refine HK.out _ _ ?_
  clear HK hm70 kB
  obtain ⟨E2, B2, hS, b0', b1', b2', e0, e1, e2⟩ : ∃ E2 B2, St w0 (w1.alloc (.cells (madeCells #[.bool false] n) 4)) 3 E2 B2 ∧ B2 0 = bx 46 (.slice pa pl pc) ∧ B2 1 = bx 102 (.func (.func 24) #[] #[.pointer (some ⟨E2 0, 0, none⟩)]) ∧ B2 2 = zrow 4 n (.bool false) ∧ E 0 = E2 0 ∧ E 1 = E2 1 ∧ w1.heap.size = E2 2 := by
    refine ⟨_, _, HS.out.make (.bool false) n 4 2 3 (.inr ⟨rfl, rfl⟩), ?_, ?_, ?_, ?_, ?_, ?_⟩
    · rw [upd_other _ _ (by omega), b0]
    · rw [upd_other _ _ (by omega), b1, upd_other _ _ (by omega)]
    · rw [upd_same]; rfl
    · rw [upd_other _ _ (by omega)]
    · rw [upd_other _ _ (by omega)]
    · rw [upd_same]
  rw [e0, e1, e2]
  clear e0 e1 e2 HS b0 b1
  generalize w1.alloc (.cells (madeCells #[.bool false] n) 4) = w2 at hS ⊢
  have kB := old_cell hS.since HKB.out
  have HS : Hid (St w0 w2 3 E2 B2) := hS
  clear hS E B w1
  refine wp_seq_hid (fun K HK => ?_)
  refine wp_seq_hid (fun K2 HK2 => ?_)
  go_wp2
  refine HK2.out _ _ ?_
  clear HK2 kB
  refine wp_block ?_
  refine wp_loop_ghost_k (fun g a w => ∃ f', a = G [] f' ∧ ∃ i, g + i = n ∧ St w0 w 3 E2 B2 ∧ f' 0 = .pointer (some ⟨fb, 0, none⟩) ∧ f' 3 = .pointer (some ⟨E2 0, 0, none⟩) ∧ f' 5 = .pointer (some ⟨E2 1, 0, none⟩) ∧ f' 6 = .slice (some ⟨E2 2, 0, none⟩) n n ∧ f' 32 = .slice (some ⟨bb, bo, none⟩) n bc ∧ f' 33 = .int .i64 (n : Nat) ∧ f' 34 = .int .i64 (i : Nat)) n
    ⟨_, rfl, 0, by omega, HS.out, by simp [fup_at, h0], by simp [fup_at], by simp [fup_at], by simp [fup_at], by simp [fup_at], by simp [fup_at], by simp [fup_at]⟩ ?_
  clear HS h0 h1 f
  rintro g _ w3 ⟨f, rfl, i, hg, hS, h0, h3, h5, h6, h32, h33, h34⟩ J K1 hJ hK1
  have HJ : Hid _ := hJ
  have HK1 : Hid (∀ a' w', Handed J g a' w' → K1 a' w') := hK1
  have HS : Hid (St w0 w3 3 E2 B2) := hS
  clear hJ hK1 hS
  refine wp_seq_hid (fun Ka HKa => ?_)
  go_wp2
  refine HKa.out _ _ ?_
  clear HKa
  refine wp_seq_hid (fun Kb HKb => ?_)
  refine (hG []).cond (by omega) rfl (fun hh => ?_) (fun hh => ?_)
  · have hi : i < n := by simpa using hh
    have hiz : (i : Int) < (n : Int) := by omega
    clear hh
    go_wp2
    refine HKb.out _ _ ?_
    clear HKb
    have kb := old_cell HS.out.since (hblk i hi)
    refine wp_seq_hid (fun K2 HK2 => ?_)
    refine wp_block ?_
    refine wp_seq_hid (fun K4 HK4 => ?_)
    go_wp2
    refine HK4.out _ _ ?_
    clear HK4 kb
    obtain ⟨ao, wl, wc, sb, so, t, ks0, hao, hwl, hcell⟩ : ∃ ao wl wc sb so t, w0.cell? ⟨bk i, 4, none⟩ = some (.slice ao wl wc) ∧ (0 < wl → ao = some ⟨sb, so, none⟩ ∧ t < n) ∧ wl ≤ 1 ∧ ∀ j, j < wl → w0.cell? ⟨sb, so + j, none⟩ = some (.pointer (some ⟨bk t, 0, none⟩)) := by
      rcases hC.succ i hi with ⟨_, ks⟩ | ⟨t, sb, so, c, _, ht, ks, kt⟩
      · exact ⟨_, _, _, 0, 0, 0, ks, fun h => by omega, by omega, fun j hj => by omega⟩
      · refine ⟨_, _, _, sb, so, t, ks, fun _ => ⟨rfl, ht⟩, by omega, fun j hj => ?_⟩
        obtain rfl : j = 0 := by omega
        exact kt
    have ks := old_cell HS.out.since ks0
    refine wp_seq_hid (fun K4 HK4 => ?_)
    go_wp2
    refine HK4.out _ _ ?_
    clear HK4 ks
    refine wp_block ?_
    refine wp_loop_ghost_k (fun g a w => ∃ f', a = G [] f' ∧ ∃ j, g + j = wl ∧ St w0 w 3 E2 B2 ∧ f' 0 = .pointer (some ⟨fb, 0, none⟩) ∧ f' 3 = .pointer (some ⟨E2 0, 0, none⟩) ∧ f' 5 = .pointer (some ⟨E2 1, 0, none⟩) ∧ f' 6 = .slice (some ⟨E2 2, 0, none⟩) n n ∧ f' 8 = .pointer (some ⟨bk i, 0, none⟩) ∧ f' 32 = .slice (some ⟨bb, bo, none⟩) n bc ∧ f' 33 = .int .i64 (n : Nat) ∧ f' 34 = .int .i64 (i : Nat) ∧ f' 41 = .slice ao wl wc ∧ f' 42 = .int .i64 (wl : Nat) ∧ f' 43 = .int .i64 (j : Nat)) wl
      ⟨_, rfl, 0, by omega, HS.out, by simp [fup_at, h0], by simp [fup_at, h3], by simp [fup_at, h5], by simp [fup_at, h6], by simp [fup_at], by simp [fup_at, h32], by simp [fup_at, h33], by simp [fup_at, h34], by simp [fup_at], by simp [fup_at], by simp [fup_at]⟩ ?_
    clear HS h0 h3 h5 h6 h32 h33 h34 f
    rintro g2 _ w4 ⟨f, rfl, j, hg2, hS, h0, h3, h5, h6, h8, h32, h33, h34, h41, h42, h43⟩ J2 K5 hJ2 hK5
    have HJ2 : Hid _ := hJ2
    have HK5 : Hid (∀ a' w', Handed J2 g2 a' w' → K5 a' w') := hK5
    have HS : Hid (St w0 w4 3 E2 B2) := hS
    clear hJ2 hK5 hS
    refine wp_seq_hid (fun Ka HKa => ?_)
    go_wp2
    refine HKa.out _ _ ?_
    clear HKa
    refine wp_seq_hid (fun Kb HKb => ?_)
    refine (hG []).cond (by omega) rfl (fun hh => ?_) (fun hh => ?_)
    · have hj : j < wl := by simpa using hh
      have hjz : (j : Int) < (wl : Int) := by omega
      clear hh
      go_wp2
      refine HKb.out _ _ ?_
      clear HKb
      obtain ⟨rfl, ht⟩ := hao (by omega)
      have kt := old_cell HS.out.since (hcell j hj)
      refine wp_seq_hid (fun K6 HK6 => ?_)
      refine wp_block ?_
      refine wp_seq_hid (fun K7 HK7 => ?_)
      go_wp2
      refine HK7.out _ _ ?_
      clear HK7 kt
      refine o9 hG (t := t) (sb := bk t) (bb := bk i) (kd := kd i) HS.out b1' b2' ht (hC.id t ht) (hkc i hi).1 (hkc i hi).2 (by simp [fup_at, h5]) (by simp [fup_at, h6]) (by simp [fup_at, h8]) (by simp [fup_at]) ?_
      intro x w5 hx hS5
      refine HK6.out _ _ ?_
      clear HK6
      have x0 : x 0 = .pointer (some ⟨fb, 0, none⟩) := (hx 0 (by omega) (by kernel_rfl)).trans (by simp [fup_at, h0])
      have x3 : x 3 = .pointer (some ⟨E2 0, 0, none⟩) := (hx 3 (by omega) (by kernel_rfl)).trans (by simp [fup_at, h3])
      have x5 : x 5 = .pointer (some ⟨E2 1, 0, none⟩) := (hx 5 (by omega) (by kernel_rfl)).trans (by simp [fup_at, h5])
      have x6 : x 6 = .slice (some ⟨E2 2, 0, none⟩) n n := (hx 6 (by omega) (by kernel_rfl)).trans (by simp [fup_at, h6])
      have x8 : x 8 = .pointer (some ⟨bk i, 0, none⟩) := (hx 8 (by omega) (by kernel_rfl)).trans (by simp [fup_at, h8])
      have x32 : x 32 = .slice (some ⟨bb, bo, none⟩) n bc := (hx 32 (by omega) (by kernel_rfl)).trans (by simp [fup_at, h32])
      have x33 : x 33 = .int .i64 (n : Nat) := (hx 33 (by omega) (by kernel_rfl)).trans (by simp [fup_at, h33])
      have x34 : x 34 = .int .i64 (i : Nat) := (hx 34 (by omega) (by kernel_rfl)).trans (by simp [fup_at, h34])
      have x41 : x 41 = .slice (some ⟨sb, so, none⟩) wl wc := (hx 41 (by omega) (by kernel_rfl)).trans (by simp [fup_at, h41])
      have x42 : x 42 = .int .i64 (wl : Nat) := (hx 42 (by omega) (by kernel_rfl)).trans (by simp [fup_at, h42])
      have x43 : x 43 = .int .i64 (j : Nat) := (hx 43 (by omega) (by kernel_rfl)).trans (by simp [fup_at, h43])
      have HS5 : Hid (St w0 w5 3 E2 B2) := hS5
      clear hS5 hx HS
      go_wp2
      exact HK5.out _ _ ⟨g2 - 1, by omega, HJ2.out _ _ _ ⟨_, rfl, j + 1, by omega, HS5.out, by simp [fup_at, x0], by simp [fup_at, x3], by simp [fup_at, x5], by simp [fup_at, x6], by simp [fup_at, x8], by simp [fup_at, x32], by simp [fup_at, x33], by simp [fup_at, x34], by simp [fup_at, x41], by simp [fup_at, x42], by simp [fup_at]⟩⟩
    · clear hh HKb HK5 HJ2
      go_wp2
      refine HK2.out _ _ ?_
      clear HK2
      go_wp2
      exact HK1.out _ _ ⟨g - 1, by omega, HJ.out _ _ _ ⟨_, rfl, i + 1, by omega, HS.out, by simp [fup_at, h0], by simp [fup_at, h3], by simp [fup_at, h5], by simp [fup_at, h6], by simp [fup_at, h32], by simp [fup_at, h33], by simp [fup_at]⟩⟩
  · clear hh HKb HK1 HJ
    go_wp2
    refine HK.out _ _ ?_
    clear HK
    exact o12 hG hre hC hkc hn hn1 HS.out b0' b1' b2' (by simp [fup_at, h0]) (by simp [fup_at, h3]) (by simp [fup_at, h5]) (by simp [fup_at, h6]) hR

set_option maxRecDepth 100000 in
theorem order_any {w0 : World} {n fb : Nat} {bk kd : Nat → Nat} {sc : Nat → Option Nat} {pa : Option Addr} {pl pc : Nat}
    (hC : Cfg w0 fb n bk sc) (hkc : ∀ k, k < n → w0.cell? ⟨bk k, 2, none⟩ = some (.int .u8 (kd k : Nat)) ∧ kd k ≠ 1) (hn : n ≤ 100000) (hn1 : 1 ≤ n) :
    Calls Ybaz.prog 11 #[.pointer (some ⟨fb, 0, none⟩), .slice pa pl pc] w0 fun e w' => ∃ v, e = .returned v ∧ OrdOk w0 w' n bk v := by
  refine callsIn_wide.1 (callsIn_of_wp_marks (n := 9) Ybaz.func11 rfl trivial (wpIn_wide.2 ?_) rfl)
  rw [(frmd_fr 175 []).of (Act.mk _ _) (by simp [Ybaz.ntmps11]) rfl]
  exact o0 (G := frmd 175) (pa := pa) (pl := pl) (pc := pc) (frmd_fr 175) (fun _ _ _ => rfl) hC hkc hn hn1 (by simp) (by simp) (fun v w' h => ⟨v, rfl, h⟩)
end Go.Proofs.YbulkexmzaGreat
