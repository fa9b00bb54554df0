/-
  sink.function (7): from region 4 to its end. It writes new memory only.
-/
import Derived.Test.YbulkexmzaGreatPf
namespace Go.Proofs.YbulkexmzaGreat
open Go.RowKit
attribute [local go_sem] fup_at
theorem mty61 : Mty 61 38 (.slice none 0 0) := ⟨Ybaz.underlying61, ⟨24, by kernel_rfl, by omega⟩, rfl⟩
theorem since2 {w0 w w' : World} (h : w0.Since w0.heap.size w) (hs : w.Since w.heap.size w') : w0.Since w0.heap.size w' :=
  h.trans ⟨hs.os, hs.tape, hs.output, hs.size, fun i hi => hs.block i (Nat.lt_of_lt_of_le hi h.size)⟩
/-- The two rows that the loop uses. -/
structure Fq (w2 w : World) (dn lt n : Nat) : Prop where
  s : w2.Since w2.heap.size w
  hd : w2.heap.size ≤ dn
  hne : dn ≠ lt
  rd : RowOk w dn ⟨4, n, boolAt⟩
  rl : RowOk w lt ⟨38, n, fun _ u => u = .slice none 0 0⟩
theorem Fq.set {w2 w : World} {dn lt n : Nat} (h : Fq w2 w dn lt n) (k : Nat) : Fq w2 (w.setCell ⟨dn, k, none⟩ (.bool true)) dn lt n :=
  ⟨h.s.setCell h.hd _, h.hd, h.hne, h.rd.set ⟨4, n, boolAt⟩ rfl rfl ⟨true, rfl⟩ (fun _ _ _ _ h => h), h.rl.of_block (Go.Deep.blk_setCell_other _ _ _ _ (fun e => h.hne e.symm))⟩
set_option maxHeartbeats 4000000 in
set_option maxRecDepth 100000 in
theorem f7r {F : (Nat → Value) → Act} (hF : Fr 232 F) {w2 : World} {n fb sp pb : Nat} {bk kd mi : Nat → Nat} {ins : Nat → Nat → Nat} {sc : Nat → Option Nat} {f : Nat → Value} {R : Ending → World → Prop}
    (hC : Cfg w2 fb n bk sc) (hI : Cfi w2 fb n bk mi ins kd) (k21 : w2.cell? ⟨sp, 21, none⟩ = some (.pointer none)) (k22 : w2.cell? ⟨sp, 22, none⟩ = some (.int .i64 0)) (hn : n ≤ 100000) (hn1 : 1 ≤ n)
    (h0 : f 0 = .pointer (some ⟨fb, 0, none⟩)) (h5 : f 5 = .slice (some ⟨pb, 0, none⟩) n n) (h6 : f 6 = .pointer (some ⟨sp, 0, none⟩)) (hR : ∀ w', w2.Since w2.heap.size w' → R (.returned (.int .i64 0)) w') :
    ((Ybaz.f7.body.bind (codeAt 4)).getD .skip).wp Ybaz.prog (bodyPost Ybaz.prog Ybaz.f7 R) (F f) w2 := by
  conv => arg 2; whnf
  have hget := hF.get
  have hmk := hF.up
  have HR : Hid (∀ w', w2.Since w2.heap.size w' → R (.returned (.int .i64 0)) w') := hR
  have HC : Hid (Cfg w2 fb n bk sc) := hC
  have HI : Hid (Cfi w2 fb n bk mi ins kd) := hI
  have H21 : Hid (w2.cell? ⟨sp, 21, none⟩ = some (.pointer none)) := k21
  have H22 : Hid (w2.cell? ⟨sp, 22, none⟩ = some (.int .i64 0)) := k22
  obtain ⟨bb, bo, bc, kB, hblk⟩ := hC.blocks
  have HKB : Hid (w2.cell? ⟨fb, 11, none⟩ = some (.slice (some ⟨bb, bo, none⟩) n bc)) := kB
  have hm70 := run_mk mty70 n n (Nat.le_refl _) (by omega)
  clear hR hC hI k21 k22 hblk
  refine wp_seq_hid (fun K HK => ?_)
  go_wp2
  refine HK.out _ _ ?_
  clear HK hm70 kB
  obtain ⟨dn, hdn⟩ : ∃ a, a = w2.heap.size := ⟨_, rfl⟩
  have hs3 : w2.Since w2.heap.size (w2.alloc (.cells (madeCells #[.bool false] n) 4)) := alloc_since _ _
  have rd3 : RowOk (w2.alloc (.cells (madeCells #[.bool false] n) 4)) dn ⟨4, n, boolAt⟩ := by
    rw [hdn]
    exact (rowOk_made w2 (.bool false) n 4).wkn rfl rfl (fun i v _ h => ⟨false, h⟩)
  rw [← hdn]
  have HDN : Hid (w2.heap.size ≤ dn) := by rw [hdn]; exact Nat.le_refl _
  clear hdn
  generalize w2.alloc (.cells (madeCells #[.bool false] n) 4) = w3 at hs3 rd3 ⊢
  have kB := old_cell hs3 HKB.out
  have hm61 := run_mk mty61 n n (Nat.le_refl _) (by omega)
  refine wp_seq_hid (fun K HK => ?_)
  go_wp2
  refine HK.out _ _ ?_
  clear HK hm61 kB
  obtain ⟨lt, hlt⟩ : ∃ a, a = w3.heap.size := ⟨_, rfl⟩
  have HQ4 : Hid (Fq w2 (w3.alloc (.cells (madeCells #[.slice none 0 0] n) 38)) dn lt n) := by
    refine ⟨since2 hs3 (alloc_since _ _), HDN.out, ?_, rd3.of_block ?_, ?_⟩
    · have := rd3.lt; omega
    · exact Go.Deep.blk_alloc_lt _ _ _ rd3.lt
    · rw [hlt]; exact rowOk_made _ _ _ _
  rw [← hlt]
  clear hlt hs3 rd3
  generalize w3.alloc (.cells (madeCells #[.slice none 0 0] n) 38) = w4 at HQ4 ⊢
  have HO := order_any (pa := some ⟨pb, 0, none⟩) (pl := n) (pc := n) (HC.out.since HQ4.out.s) (fun k hk => ⟨old_cell HQ4.out.s (HI.out.kind k hk).1, (HI.out.kind k hk).2⟩) hn hn1
  refine wp_seq_hid (fun K HK => ?_)
  refine wp_seq_hid (fun K2 HK2 => ?_)
  go_wp2_with (go_at_call 11; refine Calls.mono HO ?_; rintro _ w5 ⟨v, rfl, hs5, a, len, cap, g, rfl, hl, ha, hc⟩; dsimp only)
  refine HK2.out _ _ ?_
  clear HK2 HO
  have hs5' : w2.Since w2.heap.size w5 := since2 HQ4.out.s hs5
  have HQ5 : Hid (Fq w2 w5 dn lt n) := ⟨hs5', HQ4.out.hd, HQ4.out.hne, HQ4.out.rd.of_block (hs5.block _ HQ4.out.rd.lt), HQ4.out.rl.of_block (hs5.block _ HQ4.out.rl.lt)⟩
  clear HQ4 hs5 hs5' w3 w4
  refine wp_block ?_
  refine wp_loop_ghost_k (fun gh a' w => ∃ y, a' = F y ∧ ∃ j, gh + j = len ∧ Fq w2 w dn lt n ∧ (∀ j, j < len → ∃ k, k < n ∧ w.cell? ⟨g, j, none⟩ = some (.pointer (some ⟨bk k, 0, none⟩))) ∧ y 0 = .pointer (some ⟨fb, 0, none⟩) ∧ y 5 = .slice (some ⟨pb, 0, none⟩) n n ∧ y 6 = .pointer (some ⟨sp, 0, none⟩) ∧ y 7 = .slice (some ⟨dn, 0, none⟩) n n ∧ y 8 = .slice (some ⟨lt, 0, none⟩) n n ∧ y 40 = .slice a len cap ∧ y 41 = .int .i64 (len : Nat) ∧ y 42 = .int .i64 (j : Nat)) len
    ⟨_, rfl, 0, rfl, HQ5.out, hc, by simp [fup_at, h0], by simp [fup_at, h5], by simp [fup_at, h6], by simp [fup_at], by simp [fup_at], by simp [fup_at], by simp [fup_at], by simp [fup_at]⟩ ?_
  clear HQ5 hc h0 h5 h6 w5 f
  rintro gh _ w5 ⟨y, rfl, j, hg, hq, hc, y0, y5, y6, y7, y8, y40, y41, y42⟩ J K3 hJk hK3
  have HJk : Hid (∀ gh a' w, (∃ y, a' = F y ∧ ∃ j, gh + j = len ∧ Fq w2 w dn lt n ∧ (∀ j, j < len → ∃ k, k < n ∧ w.cell? ⟨g, j, none⟩ = some (.pointer (some ⟨bk k, 0, none⟩))) ∧ y 0 = .pointer (some ⟨fb, 0, none⟩) ∧ y 5 = .slice (some ⟨pb, 0, none⟩) n n ∧ y 6 = .pointer (some ⟨sp, 0, none⟩) ∧ y 7 = .slice (some ⟨dn, 0, none⟩) n n ∧ y 8 = .slice (some ⟨lt, 0, none⟩) n n ∧ y 40 = .slice a len cap ∧ y 41 = .int .i64 (len : Nat) ∧ y 42 = .int .i64 (j : Nat)) → J gh a' w) := hJk
  have HK3 : Hid (∀ a' w', Handed J gh a' w' → K3 a' w') := hK3
  have HQ5 : Hid (Fq w2 w5 dn lt n) := hq
  have HCe : Hid (∀ j, j < len → ∃ k, k < n ∧ w5.cell? ⟨g, j, none⟩ = some (.pointer (some ⟨bk k, 0, none⟩))) := hc
  clear hJk hK3 hq hc
  refine wp_seq_hid (fun K4 HK4 => ?_)
  go_wp2
  refine HK4.out _ _ ?_
  clear HK4
  refine wp_seq_hid (fun K4 HK4 => ?_)
  refine hF.cond (by omega) rfl (fun hh => ?_) (fun hh => ?_)
  · have hj : j < len := by simpa using hh
    clear hh
    go_wp2
    refine HK4.out _ _ ?_
    clear HK4
    obtain rfl := ha (by omega)
    obtain ⟨k, hk, kg⟩ := HCe.out j hj
    have hkz : (k : Int) < (n : Int) := by omega
    obtain ⟨kk2, hk1⟩ := HI.out.kind k hk
    have kk2 := old_cell HQ5.out.s kk2
    have kk0 := old_cell HQ5.out.s (HC.out.id k hk)
    obtain ⟨sa, sl, sc', kk4⟩ : ∃ sa sl sc', w5.cell? ⟨bk k, 4, none⟩ = some (.slice sa sl sc') := by
      rcases HC.out.succ k hk with ⟨_, h⟩ | ⟨t, sb, so, c, _, _, h, _⟩
      · exact ⟨_, _, _, old_cell HQ5.out.s h⟩
      · exact ⟨_, _, _, old_cell HQ5.out.s h⟩
    have k21 := old_cell HQ5.out.s H21.out
    have hd1 : decide ((kd k : Int) = 1) = false := decide_eq_false (by omega)
    have HW := ways12 (pv := .slice (some ⟨pb, 0, none⟩) n n) kk2 hk1 kk4
    refine wp_seq_hid (fun K4 HK4 => ?_)
    refine wp_block ?_
    refine wp_seq_hid (fun K5 HK5 => ?_)
    go_wp2
    refine HK5.out _ _ ?_
    clear HK5 kg
    refine wp_seq_hid (fun K5 HK5 => ?_)
    go_wp2_with (go_at_call 12; refine Calls.mono HW ?_; rintro e w9 ⟨rfl, rfl⟩; dsimp only)
    refine HK5.out _ _ ?_
    clear HK5 HW
    refine wp_seq_hid (fun K5 HK5 => ?_)
    go_wp2
    refine HK5.out _ _ ?_
    clear HK5
    refine wp_seq_hid (fun K5 HK5 => ?_)
    refine wp_seq_hid (fun K6 HK6 => ?_)
    go_wp2
    refine HK6.out _ _ ?_
    clear HK6
    refine wp_seq_hid (fun K6 HK6 => ?_)
    have HC6 : Hid (∀ z : Nat → Value, z 76 = .bool false → (∀ s, s < 43 → s ≠ 13 → s ≠ 10 → s ≠ 11 → s ≠ 12 → s ≠ 43 → s ≠ 44 → s ≠ 45 → z s = y s) → z 10 = .pointer (some ⟨bk k, 0, none⟩) → K6 (F z) w9) := by
      intro z z76 hz z10
      refine HK6.out _ _ ?_
      clear HK6
      refine hF.cond (by omega) z76 (fun hh => by simp at hh) (fun hh => ?_)
      clear hh
      go_wp2
      refine HK5.out _ _ ?_
      clear HK5
      have z5 := (hz 5 (by omega) (by omega) (by omega) (by omega) (by omega) (by omega) (by omega) (by omega)).trans y5
      have z6 := (hz 6 (by omega) (by omega) (by omega) (by omega) (by omega) (by omega) (by omega) (by omega)).trans y6
      have z7 := (hz 7 (by omega) (by omega) (by omega) (by omega) (by omega) (by omega) (by omega) (by omega)).trans y7
      have z8 := (hz 8 (by omega) (by omega) (by omega) (by omega) (by omega) (by omega) (by omega) (by omega)).trans y8
      have z0 := (hz 0 (by omega) (by omega) (by omega) (by omega) (by omega) (by omega) (by omega) (by omega)).trans y0
      have z40 := (hz 40 (by omega) (by omega) (by omega) (by omega) (by omega) (by omega) (by omega) (by omega)).trans y40
      have z41 := (hz 41 (by omega) (by omega) (by omega) (by omega) (by omega) (by omega) (by omega) (by omega)).trans y41
      have z42 := (hz 42 (by omega) (by omega) (by omega) (by omega) (by omega) (by omega) (by omega) (by omega)).trans y42
      clear hz k21
      refine wp_seq_hid (fun K5 HK5 => ?_)
      go_wp2
      refine hF.cond (by omega) rfl (fun hh => by simp at hh; omega) (fun hh => ?_)
      clear hh
      go_wp2
      refine HK5.out _ _ ?_
      clear HK5
      obtain ⟨u, kd1, ⟨bl, rfl⟩⟩ := HQ5.out.rd.cell (i := k) hk
      have kdf := HQ5.out.rd.frozen k
      refine wp_seq_hid (fun K5 HK5 => ?_)
      go_wp2
      refine HK5.out _ _ ?_
      clear HK5
      have HQ6 : Hid (Fq w2 (w9.setCell ⟨dn, k, none⟩ (.bool true)) dn lt n) := HQ5.out.set k
      have hgn : g ≠ dn := fun e => by
        obtain ⟨k', hk', h'⟩ := HCe.out j hj
        rw [e] at h'
        have hlt : j < n := by
          obtain ⟨c, hc, hcn, _⟩ := HQ5.out.rd
          simp only [World.cell?, hc] at h'
          have := (Array.getElem?_eq_some_iff.1 h').1
          simp at hcn; omega
        obtain ⟨u, h1, ⟨b, rfl⟩⟩ := HQ5.out.rd.cell (i := j) hlt
        rw [h1] at h'
        cases h'
      have HCe6 : Hid (∀ j, j < len → ∃ k', k' < n ∧ (w9.setCell ⟨dn, k, none⟩ (.bool true)).cell? ⟨g, j, none⟩ = some (.pointer (some ⟨bk k', 0, none⟩))) := fun j hj => by
        obtain ⟨k', hk', h'⟩ := HCe.out j hj
        refine ⟨k', hk', ?_⟩
        rw [← h']
        have := Go.Deep.blk_setCell_other w9 ⟨dn, k, none⟩ (.bool true) g hgn
        simp only [World.cell?, this]
      have kk0' : (w9.setCell ⟨dn, k, none⟩ (.bool true)).cell? ⟨bk k, 0, none⟩ = some (.int .i64 (k : Nat)) := old_cell HQ6.out.s (HC.out.id k hk)
      obtain ⟨u, kl1, hu⟩ := HQ6.out.rl.cell (i := k) hk
      have hu : u = .slice none 0 0 := hu
      rw [hu] at kl1
      clear kk0 kk2 kk4 kd1 kdf HQ5 HCe hu hgn
      generalize w9.setCell ⟨dn, k, none⟩ (.bool true) = w10 at HQ6 HCe6 kk0' kl1 ⊢
      go_wp2
      refine hF.cond (by omega) rfl (fun hh => by simp at hh) (fun hh => ?_)
      clear hh
      go_wp2
      refine HK4.out _ _ ?_
      clear HK4 kl1 kk0'
      go_wp2
      refine HK3.out _ _ ⟨gh - 1, by omega, HJk.out _ _ _ ⟨_, rfl, j + 1, by omega, HQ6.out, HCe6.out, by simp [fup_at, z0], by simp [fup_at, z5], by simp [fup_at, z6], by simp [fup_at, z7], by simp [fup_at, z8], by simp [fup_at, z40], by simp [fup_at, z41], by simp [fup_at]⟩⟩
    go_wp2
    all_goals (refine HC6.out _ (by simp [fup_at]) (fun s h1 h2 h3 h4 h5 h6 h7 h8 => by
      simp only [fup_at]
      repeat rw [if_neg (by omega)]) (by simp [fup_at]))
  · have hj : j = len := by
      have : ¬ j < len := by simpa using hh
      omega
    subst hj
    clear hh HK3 HJk HK4
    have k22 := old_cell HQ5.out.s H22.out
    go_wp2
    refine HK.out _ _ ?_
    clear HK
    go_wp2
    exact hF.ret (t := 4) rfl (by omega) (by simp [fup_at]) (HR.out w5 HQ5.out.s)
end Go.Proofs.YbulkexmzaGreat
