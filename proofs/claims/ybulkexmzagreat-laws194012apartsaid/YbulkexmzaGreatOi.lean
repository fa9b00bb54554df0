/-
  sink.order (11): from region 12 to its end.
-/
import Derived.Test.YbulkexmzaGreatOh
namespace Go.Proofs.YbulkexmzaGreat
open Go.RowKit Go.Shelf
attribute [local go_sem] Oper.semAt_some fup_at

/-- What order returns: a slice of the function's blocks. -/
def OrdOk (w0 w : World) (n : Nat) (bk : Nat → Nat) (v : Value) : Prop :=
  w0.Since w0.heap.size w ∧ ∃ a len cap g, v = .slice a len cap ∧ len ≤ 200000 ∧ (0 < len → a = some ⟨g, 0, none⟩) ∧ ∀ j, j < len → ∃ k, k < n ∧ w.cell? ⟨g, j, none⟩ = some (.pointer (some ⟨bk k, 0, none⟩))
theorem Osd.ord {w0 w : World} {E : Nat → Nat} {B : Nat → Lb} {n : Nat} {bk : Nat → Nat} {ds : List Deferred} {len : Nat} {v sv : Value} {K : Nat} (h : Osd w0 w E B n bk ds len v sv K) (hl : len ≤ 200000) : OrdOk w0 w n bk v := by
  obtain ⟨cap, hs⟩ := h.b3
  obtain ⟨a, c, rfl, ha⟩ := hs.form
  refine ⟨h.st.since, a, len, c, E 3, rfl, hl, ha, fun j hj => ?_⟩
  obtain ⟨u, h1, ⟨k, hk, rfl⟩, _⟩ := hs.cell h.st (by have := h.k8; omega) (i := j) (by omega)
  exact ⟨k, hk, h1⟩
theorem OrdOk.take {w0 w : World} {n : Nat} {bk : Nat → Nat} {v : Value} (h : OrdOk w0 w n bk v) {D : Nat} (hD : w0.heap.size ≤ D) (hd : w.heap[D]? = some (.deferred (some []))) : OrdOk w0 (w.putObj D (.deferred none)) n bk v := by
  obtain ⟨hs, a, len, cap, g, rfl, hl, ha, hc⟩ := h
  refine ⟨hs.grown (grownBy_putObj' w D _) hs.size (fun k e => by cases e; exact hD), a, len, cap, g, rfl, hl, ha, fun j hj => ?_⟩
  obtain ⟨k, hk, h1⟩ := hc j hj
  refine ⟨k, hk, ?_⟩
  have hne : g ≠ D := fun e => by
    rw [e] at h1
    simp [World.cell?, hd] at h1
  have : (w.putObj D (.deferred none)).heap[g]? = w.heap[g]? := World.putObj_heap_other hne
  simpa [World.cell?, this] using h1

set_option maxHeartbeats 4000000 in
set_option maxRecDepth 100000 in
theorem o12 {G : List Deferred → (Nat → Value) → Act} (hG : ∀ ds, Frd 175 ds (G ds)) (hre : ∀ ds ds' f, (⟨(G ds f).tmps, ds'⟩ : Act) = G ds' f) {w0 w : World} {E : Nat → Nat} {B : Nat → Lb} {n fb : Nat} {bk kd : Nat → Nat} {sc : Nat → Option Nat} {pv : Value} {f : Nat → Value} {R : Ending → World → Prop}
    (hC : Cfg w0 fb n bk sc) (hkc : ∀ k, k < n → w0.cell? ⟨bk k, 2, none⟩ = some (.int .u8 (kd k : Nat)) ∧ kd k ≠ 1) (hn : n ≤ 100000) (hn1 : 1 ≤ n)
    (hS : St w0 w 3 E B) (hb0 : B 0 = bx 46 pv) (hb1 : B 1 = bx 102 (.func (.func 24) #[] #[.pointer (some ⟨E 0, 0, none⟩)])) (hb2 : B 2 = zrow 4 n (.bool false))
    (h0 : f 0 = .pointer (some ⟨fb, 0, none⟩)) (h3 : f 3 = .pointer (some ⟨E 0, 0, none⟩)) (h5 : f 5 = .pointer (some ⟨E 1, 0, none⟩)) (h6 : f 6 = .slice (some ⟨E 2, 0, none⟩) n n)
    (hR : ∀ v w', OrdOk w0 w' n bk v → R (.returned v) w') :
    ((Ybaz.f11.body.bind (codeAt 12)).getD .skip).wp Ybaz.prog (bodyPostM Fence.wide 9 Ybaz.prog Ybaz.f11 R) (G [] f) w := by
  conv => arg 2; whnf
  have hget := (hG []).get
  have hmk := (hG []).up
  have HR : Hid (∀ v w', OrdOk w0 w' n bk v → R (.returned v) w') := hR
  obtain ⟨bb, bo, bc, kB0, hblk⟩ := hC.blocks
  have HKB : Hid (w0.cell? ⟨fb, 11, none⟩ = some (.slice (some ⟨bb, bo, none⟩) n bc)) := kB0
  have kB := old_cell hS.since kB0
  have HS : Hid (St w0 w 3 E B) := hS
  have HB : Hid (B 0 = bx 46 pv ∧ B 1 = bx 102 (.func (.func 24) #[] #[.pointer (some ⟨E 0, 0, none⟩)]) ∧ B 2 = zrow 4 n (.bool false)) := ⟨hb0, hb1, hb2⟩
  have hm39 : ∀ w, (Instr.makeSlice 39 (.int .i64 0) (.int .i64 (n : Nat))).run Ybaz.prog w = .ok (.slice (some ⟨w.heap.size, 0, none⟩) 0 n) (w.alloc (.cells (madeCells #[.pointer none] n) 40)) := run_mk mty39 0 n (Nat.zero_le _) (by omega)
  clear hR kB0 hS hb0 hb1 hb2
  refine wp_seq_hid (fun K HK => ?_)
  go_wp2
  refine HK.out _ _ ?_
  clear HK hm39 kB
  have s1 := (HS.out.make (.pointer none) n 40 3 4 (.inr ⟨rfl, rfl⟩))
  have s1 := s1.wkn 3 (gl 40 1 0 n (isBlk n bk)) (by rw [upd_same]; rfl) (by rw [upd_same]; show n * 1 = n; omega) (fun _ _ _ _ h => by omega)
  rw [upd_upd] at s1
  obtain ⟨E1, hE1⟩ : ∃ E1, E1 = upd E 3 w.heap.size := ⟨_, rfl⟩
  obtain ⟨B1, hB1⟩ : ∃ B1, B1 = upd B 3 (gl 40 1 0 n (isBlk n bk)) := ⟨_, rfl⟩
  rw [← hE1, ← hB1] at s1
  have e3 : w.heap.size = E1 3 := by rw [hE1, upd_same]
  have HS1 : Hid (St w0 (w.alloc (.cells (madeCells #[.pointer none] n) 40)) 4 E1 B1) := s1
  have HE1 : Hid (∀ k, k < 3 → E1 k = E k) := fun k hk => by rw [hE1, upd_other _ _ (by omega)]
  have HB1 : Hid (∀ k, k < 3 → B1 k = B k) := fun k hk => by rw [hB1, upd_other _ _ (by omega)]
  have HB13 : Hid (B1 3 = gl 40 1 0 n (isBlk n bk)) := by rw [hB1, upd_same]; exact rfl
  rw [e3]
  clear s1 hE1 hB1 e3 HS
  generalize w.alloc (.cells (madeCells #[.pointer none] n) 40) = w1 at HS1 ⊢
  have hm70 := run_mk mty70 n n (Nat.le_refl _) (by omega)
  have kB := old_cell HS1.out.since HKB.out
  refine wp_seq_hid (fun K HK => ?_)
  go_wp2
  refine HK.out _ _ ?_
  clear HK hm70 kB
  obtain ⟨E2, B2, hS2, hE2, hB2, e4, e5, b4, b5⟩ : ∃ E2 B2, St w0 ((w1.alloc (.cells (madeCells #[.bool false] n) 4)).alloc (.cells #[.slice (some ⟨w1.heap.size, 0, none⟩) n n] 70)) 6 E2 B2 ∧ (∀ k, k < 4 → E2 k = E1 k) ∧ (∀ k, k < 4 → B2 k = B1 k) ∧ w1.heap.size = E2 4 ∧ w1.heap.size + 1 = E2 5 ∧ B2 4 = ⟨4, n, boolAt⟩ ∧ B2 5 = bx 70 (.slice (some ⟨E2 4, 0, none⟩) n n) := by
    have s1 := HS1.out.make (.bool false) n 4 4 5 (.inr ⟨rfl, rfl⟩)
    have s1 := s1.wkn 4 ⟨4, n, boolAt⟩ (by rw [upd_same]) (by rw [upd_same]) (fun i v _ h => by
      rw [upd_same] at h
      exact ⟨false, h⟩)
    rw [upd_upd] at s1
    have s2 := s1.new #[.slice (some ⟨w1.heap.size, 0, none⟩) n n] 70 5 6 (.inr ⟨rfl, rfl⟩) (bx 70 (.slice (some ⟨w1.heap.size, 0, none⟩) n n)) rfl rfl (fun j u hu => by
        match j, hu with
        | 0, hu => simp at hu; exact hu.symm)
    refine ⟨_, _, s2, fun k hk => ?_, fun k hk => ?_, ?_, ?_, ?_, ?_⟩
    · rw [upd_other _ _ (by omega), upd_other _ _ (by omega)]
    · rw [upd_other _ _ (by omega), upd_other _ _ (by omega)]
    · rw [upd_other _ _ (by omega), upd_same]
    · rw [upd_same]; exact (Array.size_push ..).symm
    · rw [upd_other _ _ (by omega), upd_same]
    · rw [upd_same, upd_other _ _ (by omega), upd_same]
  rw [e5, e4]
  rw [e4] at hS2
  have HS2 : Hid (St w0 ((w1.alloc (.cells (madeCells #[.bool false] n) 4)).alloc (.cells #[.slice (some ⟨E2 4, 0, none⟩) n n] 70)) 6 E2 B2) := hS2
  have HE2 : Hid (∀ k, k < 4 → E2 k = E1 k) := hE2
  have HB2 : Hid (∀ k, k < 4 → B2 k = B1 k) := hB2
  clear hS2 hE2 hB2 e4 e5 HS1
  generalize (w1.alloc (.cells (madeCells #[.bool false] n) 4)).alloc (.cells #[.slice (some ⟨E2 4, 0, none⟩) n n] 70) = w2 at HS2 ⊢
  refine wp_seq_hid (fun K HK => ?_)
  go_wp2
  refine HK.out _ _ ?_
  clear HK
  refine wp_seq_hid (fun K HK => ?_)
  refine wp_seq_hid (fun K2 HK2 => ?_)
  go_wp2
  refine HK2.out _ _ ?_
  clear HK2
  obtain ⟨E3, B3, hO, e6, e7, hE3⟩ : ∃ E3 B3, Osd w0 ((w2.alloc (.cells #[.slice none 0 0] 39)).alloc (.cells #[.bool false, .bool true] 4)) E3 B3 n bk [] 0 (.slice (some ⟨E1 3, 0, none⟩) 0 n) (.slice none 0 0) 8 ∧ w2.heap.size = E3 6 ∧ w2.heap.size + 1 = E3 7 ∧ (∀ k, k < 6 → E3 k = E2 k) := by
    have s1 := HS2.out.new #[.slice none 0 0] 39 6 7 (.inr ⟨rfl, rfl⟩) (bx 39 (.slice none 0 0)) rfl rfl (fun j u hu => by
        match j, hu with
        | 0, hu => simp at hu; exact hu.symm)
    have s2 := s1.new #[.bool false, .bool true] 4 7 8 (.inr ⟨rfl, rfl⟩) ⟨4, 2, boolAt⟩ rfl rfl (fun j u hu => by
        match j, hu with
        | 0, hu => simp at hu; exact ⟨_, hu.symm⟩
        | 1, hu => simp at hu; exact ⟨_, hu.symm⟩)
    have hb : ∀ k, k < 6 → upd (upd B2 6 (bx 39 (.slice none 0 0))) 7 ⟨4, 2, boolAt⟩ k = B2 k := fun k hk => by rw [upd_other _ _ (by omega), upd_other _ _ (by omega)]
    have he : ∀ k, k < 6 → upd (upd E2 6 w2.heap.size) 7 (w2.alloc (.cells #[.slice none 0 0] 39)).heap.size k = E2 k := fun k hk => by rw [upd_other _ _ (by omega), upd_other _ _ (by omega)]
    refine ⟨_, _, ⟨⟨s2, ⟨[], rfl, List.nodup_nil, fun D h => by cases h⟩, ⟨pv, ?_⟩, ?_, ?_, ⟨n, .inr ⟨?_, ?_, Nat.zero_le _, ?_⟩⟩, ?_, ?_, ?_⟩, ?_, .inl ⟨rfl, rfl⟩⟩, ?_, ?_, he⟩
    · rw [hb 0 (by omega), HB2.out 0 (by omega), HB1.out 0 (by omega)]; exact HB.out.1
    · rw [hb 1 (by omega), HB2.out 1 (by omega), HB1.out 1 (by omega), he 0 (by omega), HE2.out 0 (by omega), HE1.out 0 (by omega)]; exact HB.out.2.1
    · rw [hb 2 (by omega), HB2.out 2 (by omega), HB1.out 2 (by omega)]; exact HB.out.2.2
    · rw [he 3 (by omega), HE2.out 3 (by omega)]
    · rw [hb 3 (by omega), HB2.out 3 (by omega)]; exact HB13.out
    · unfold maxLen; omega
    · rw [hb 4 (by omega)]; exact b4
    · rw [hb 5 (by omega), he 4 (by omega)]; exact b5
    · rw [upd_same]
    · rw [upd_other _ _ (by omega), upd_same]
    · rw [upd_other _ _ (by omega), upd_same]
    · rw [upd_same]; exact (Array.size_push ..).symm
  rw [e7, e6]
  have HO : Hid (Osd w0 ((w2.alloc (.cells #[.slice none 0 0] 39)).alloc (.cells #[.bool false, .bool true] 4)) E3 B3 n bk [] 0 (.slice (some ⟨E1 3, 0, none⟩) 0 n) (.slice none 0 0) 8) := hO
  have q0 : E 0 = E3 0 := by rw [hE3 0 (by omega), HE2.out 0 (by omega), HE1.out 0 (by omega)]
  have q1 : E 1 = E3 1 := by rw [hE3 1 (by omega), HE2.out 1 (by omega), HE1.out 1 (by omega)]
  have q2 : E 2 = E3 2 := by rw [hE3 2 (by omega), HE2.out 2 (by omega), HE1.out 2 (by omega)]
  have q5 : E2 5 = E3 5 := by rw [hE3 5 (by omega)]
  rw [q5]
  rw [q0] at h3
  rw [q1] at h5
  rw [q2] at h6
  clear hO hE3 e6 e7 HS2 HE2 HB2 q0 q1 q2 q5 HB1 HE1 HB13 b4 b5 HB hget hmk
  generalize (w2.alloc (.cells #[.slice none 0 0] 39)).alloc (.cells #[.bool false, .bool true] 4) = w3 at HO ⊢
  refine wp_block ?_
  refine wp_loop_ghost_k (fun g a w => ∃ ds f', a = G ds f' ∧ ∃ j E' B' len v sv K, g + j = 2 ∧ Osd w0 w E' B' n bk ds len v sv K ∧ Osf f' E' fb n ∧ f' 11 = v ∧ len ≤ j * n ∧ f' 80 = .slice (some ⟨E' 7, 0, none⟩) 2 2 ∧ f' 81 = .int .i64 2 ∧ f' 82 = .int .i64 (j : Nat)) 2
    ⟨[], _, rfl, 0, E3, B3, 0, _, _, _, rfl, HO.out, ⟨by simp [fup_at, h0], by simp [fup_at, h3], by simp [fup_at, h5], by simp [fup_at, h6], by simp [fup_at], by simp [fup_at]⟩, by simp [fup_at], by omega, by simp [fup_at], by simp [fup_at], by simp [fup_at]⟩ ?_
  clear HO h0 h3 h5 h6 f E3 B3 E2 B2 w2 w1
  rintro g _ w4 ⟨ds, f, rfl, j, E3, B3, len, v, sv, K3, hg, hO, hF, h11, hlen, h80, h81, h82⟩ J K1 hJ hK1
  have HJ : Hid _ := hJ
  have HK1 : Hid (∀ a' w', Handed J g a' w' → K1 a' w') := hK1
  have HO : Hid (Osd w0 w4 E3 B3 n bk ds len v sv K3) := hO
  have HF : Hid (Osf f E3 fb n) := hF
  have h0 := hF.f0
  have hget := (hG ds).get
  have hmk := (hG ds).up
  have hjn : j ≤ 2 := by omega
  clear hJ hK1 hO hF
  refine wp_seq_hid (fun Ka HKa => ?_)
  go_wp2
  refine HKa.out _ _ ?_
  clear HKa
  refine wp_seq_hid (fun Kb HKb => ?_)
  refine (hG ds).cond (by omega) rfl (fun hh => ?_) (fun hh => ?_)
  · have hj2 : j < 2 := by
      have : (j : Int) < 2 := by simpa using hh
      omega
    have hjz : (j : Int) < 2 := by omega
    clear hh
    go_wp2
    refine HKb.out _ _ ?_
    clear HKb
    obtain ⟨u, ku, ⟨bl, rfl⟩⟩ : ∃ u, w4.cell? ⟨E3 7, j, none⟩ = some u ∧ boolAt j u := by
      have := HO.out.st.read 7 (by have := HO.out.k8; omega) (i := j) (by rw [HO.out.b7]; exact hj2)
      rwa [HO.out.b7] at this
    have kB := old_cell HO.out.st.since HKB.out
    refine wp_seq_hid (fun K2 HK2 => ?_)
    refine wp_block ?_
    refine wp_seq_hid (fun K4 HK4 => ?_)
    go_wp2
    refine HK4.out _ _ ?_
    clear HK4 ku
    refine wp_seq_hid (fun K4 HK4 => ?_)
    go_wp2
    refine HK4.out _ _ ?_
    clear HK4 kB
    refine wp_block ?_
    have hlen0 : len ≤ j * n + 0 := by omega
    refine wp_loop_ghost_k (fun g a w => ∃ ds f', a = G ds f' ∧ ∃ i E' B' len v sv K, g + i = n ∧ Osd w0 w E' B' n bk ds len v sv K ∧ Osf f' E' fb n ∧ f' 11 = v ∧ len ≤ j * n + i ∧ f' 15 = .bool bl ∧ f' 80 = .slice (some ⟨E' 7, 0, none⟩) 2 2 ∧ f' 81 = .int .i64 2 ∧ f' 82 = .int .i64 (j : Nat) ∧ f' 89 = .slice (some ⟨bb, bo, none⟩) n bc ∧ f' 90 = .int .i64 (n : Nat) ∧ f' 91 = .int .i64 (i : Nat)) n
      ⟨ds, _, rfl, 0, E3, B3, len, v, sv, K3, by omega, HO.out, HF.out.keep (fun s h1 h2 => by
        simp only [fup_at]
        repeat rw [if_neg (by omega)]) (fun _ _ _ => rfl), by simp [fup_at, h11], hlen0, by simp [fup_at], by simp [fup_at, h80], by simp [fup_at, h81], by simp [fup_at, h82], by simp [fup_at], by simp [fup_at], by simp [fup_at]⟩ ?_
    clear HO HF h11 hlen hlen0 h80 h81 h82 h0 f E3 B3 hget hmk v sv len
    rintro g2 _ w5 ⟨ds, f, rfl, i, E3, B3, len, v, sv, K3, hg2, hO, hF, h11, hlen, h15, h80, h81, h82, h89, h90, h91⟩ J2 K5 hJ2 hK5
    have HJ2 : Hid _ := hJ2
    have HK5 : Hid (∀ a' w', Handed J2 g2 a' w' → K5 a' w') := hK5
    have HO : Hid (Osd w0 w5 E3 B3 n bk ds len v sv K3) := hO
    have HF : Hid (Osf f E3 fb n) := hF
    have hget := (hG ds).get
    have hmk := (hG ds).up
    clear hJ2 hK5 hO hF
    refine wp_seq_hid (fun Ka HKa => ?_)
    go_wp2
    refine HKa.out _ _ ?_
    clear HKa
    refine wp_seq_hid (fun Kb HKb => ?_)
    refine (hG ds).cond (by omega) rfl (fun hh => ?_) (fun hh => ?_)
    · have hi : i < n := by simpa using hh
      clear hh
      go_wp2
      refine HKb.out _ _ ?_
      clear HKb
      have hjn2 : j * n ≤ 1 * n := Nat.mul_le_mul_right n (by omega)
      refine o20 hG hre hC hkc hi hn (by omega) HO.out (HF.out.keep (fun s h1 h2 => by simp only [fup_at]; rw [if_neg (by omega)]) (fun _ _ _ => rfl)) (by simp [fup_at, h11]) (bl := bl) (by simp [fup_at, h15]) (bb := bb) (bo := bo) (bc := bc) (by simp [fup_at, h89]) (by simp [fup_at, h91]) (hblk i hi) ?_
      intro x w6 E6 B6 ds6 len6 v6 sv6 K6 hx x91 hE6 x11 hl6 hO6
      have hx' : ∀ s, s ≠ 11 → s ≠ 17 → s ≠ 18 → s ≠ 19 → s ≠ 91 → s < 92 → x s = f s := fun s h1 h2 h3 h4 h5 h6 => by
        rw [hx s h1 h2 h3 h4 h5 h6]
        simp only [fup_at]; rw [if_neg (by omega)]
      exact HK5.out _ _ ⟨g2 - 1, by omega, HJ2.out _ _ _ ⟨ds6, x, rfl, i + 1, E6, B6, len6, v6, sv6, K6, by omega, hO6, HF.out.keep (fun s h1 h2 => hx' s h2 (by omega) (by omega) (by omega) (by omega) (by omega)) (fun k h1 h2 => hE6 k (by omega) h2), x11, by omega,
        (hx' 15 (by omega) (by omega) (by omega) (by omega) (by omega) (by omega)).trans h15, (hx' 80 (by omega) (by omega) (by omega) (by omega) (by omega) (by omega)).trans (by rw [hE6 7 (by omega) (by omega)]; exact h80), (hx' 81 (by omega) (by omega) (by omega) (by omega) (by omega) (by omega)).trans h81, (hx' 82 (by omega) (by omega) (by omega) (by omega) (by omega) (by omega)).trans h82, (hx' 89 (by omega) (by omega) (by omega) (by omega) (by omega) (by omega)).trans h89, (hx' 90 (by omega) (by omega) (by omega) (by omega) (by omega) (by omega)).trans h90, x91⟩⟩
    · have hi : i = n := by
        have : ¬ i < n := by simpa using hh
        omega
      subst hi
      clear hh HKb HK5 HJ2
      go_wp2
      refine HK2.out _ _ ?_
      clear HK2
      go_wp2
      have hjn2 : len ≤ (j + 1) * i := by rw [Nat.add_mul]; omega
      refine HK1.out _ _ ⟨g - 1, by omega, HJ.out _ _ _ ⟨ds, _, rfl, j + 1, E3, B3, len, v, sv, K3, by omega, HO.out, HF.out.keep (fun s h1 h2 => ?_) (fun _ _ _ => rfl), by simp [fup_at, h11], hjn2, by simp [fup_at, h80], by simp [fup_at, h81], by simp [fup_at]⟩⟩
      simp only [fup_at]
      repeat rw [if_neg (by omega)]
  · have hj2 : j = 2 := by
      have : ¬ (j : Int) < 2 := by simpa using hh
      omega
    subst hj2
    clear hh HKb HK1 HJ
    go_wp2
    refine HK.out _ _ ?_
    clear HK
    go_wp2
    show LeavesInM Fence.wide 9 Ybaz.prog Ybaz.f11 _ R (G ds _).defers .returning w4
    rw [(hG ds).df]
    obtain ⟨Ds, hds, hnd, hDs⟩ := HO.out.mks
    have hord := HO.out.ord (by omega)
    subst hds
    exact leaves_marks (t := 4) (v := v) rfl (((hG _).getD _ (by omega)).trans (by simp [fup_at])) w0.heap.size (fun w => OrdOk w0 w n bk v) (fun w D h1 h2 h3 => h1.take h2 h3) (fun w h => HR.out v w h) Ds w4 hnd hDs hord
end Go.Proofs.YbulkexmzaGreat
