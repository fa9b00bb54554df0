/-
  The law: a block's instructions, its place, its snapshot (regions 51 to 65).
-/
import Derived.Test.YbulkexmzaGreatQc
namespace Go.Proofs.YbulkexmzaGreat
open Go.RowKit
attribute [local go_sem] fup_at
theorem mty38 : Mty 38 50 (.pointer none) := ⟨Ybaz.underlying38, ⟨8, by kernel_rfl, by omega⟩, rfl⟩
/-- The labels that this part turns. -/
def T51 (i j : Nat) (l : Lab) : Prop := l = (11, i, j, 0) ∨ l = (13, i, j, 0) ∨ l = (14, i, j, 0) ∨ (l.1 = 20 ∧ l.2.1 = i ∧ l.2.2.1 = j)
def dat (K S I O : Nat) : Nat → Value := litv #[.int .u8 (K : Nat), .int .u8 (S : Nat), .int .u8 (I : Nat), .int .u8 (O : Nat)]
set_option maxHeartbeats 4000000 in
set_option maxRecDepth 100000 in
theorem b51 {F : (Nat → Value) → Act} (hF : Fr 559 F) {w0 w : World} {E : Lab → Nat} {B : Lab → Option Lb} {i j n l c xK xS xI xO : Nat} {p4 : Option Addr} {D0 D f : Nat → Value} {z2 : Nat} {z0 : Int} {q4 : Nat → Value → Prop} {Q : Exit → Act → World → Prop} (hj : j < n) (hn : n ≤ 100000) (hc : c ≤ 1000000000)
    (hS : Sg w0 w E B) (hb : B (10, i, j, 0) = some (vals 45 6 D0)) (hb0 : D0 0 = .int .i64 z0) (hb1 : D0 1 = .slice none 0 0) (hb2 : D0 2 = .int .u8 (z2 : Nat)) (hb3 : D0 3 = .pointer none) (hb4 : D0 4 = .slice p4 l l) (hb5 : D0 5 = .int .i64 0)
    (hl : l ≤ 1) (h12 : 0 < l → p4 = some ⟨E (12, i, j, 0), 0, none⟩ ∧ ∃ v12, B (12, i, j, 0) = some (vals 40 1 (fun _ => v12)) ∧ v12.oneCell' = true ∧ q4 0 v12)
    (h3 : B (3, i, 0, 0) = some (vals 45 (n * 6) D)) (h21 : B (21, i, j, 0) = some (vals 49 4 (dat xK xS xI xO)))
    (h17 : f 17 = .int .i64 (c : Nat)) (h24 : f 24 = .slice (some ⟨E (3, i, 0, 0), 0, none⟩) n n) (h25 : f 25 = .int .i64 (j : Nat)) (h26 : f 26 = .pointer (some ⟨E (21, i, j, 0), 0, none⟩)) (h27 : f 27 = .pointer (some ⟨E (10, i, j, 0), 0, none⟩))
    (hQ : ∀ y w' E' B' D' D5, (∀ s, s < 178 → s ≠ 17 → s ≠ 29 → s ≠ 30 → y s = f s) → y 17 = .int .i64 ((c + xI % 4 : Nat) : Int) → Sg w0 w' E' B' → (∀ l : Lab, ¬ T51 i j l → E' l = E l) → (∀ l : Lab, ¬ T51 i j l → l ≠ (10, i, j, 0) → l ≠ (3, i, 0, 0) → B' l = B l) →
      B' (10, i, j, 0) = some (vals 45 6 D5) → D5 0 = .int .i64 z0 → D5 1 = .slice (some ⟨E' (11, i, j, 0), 0, none⟩) (xI % 4) (xI % 4) → D5 2 = .int .u8 (z2 : Nat) → D5 3 = .pointer none → D5 4 = .slice p4 l l → D5 5 = .int .i64 ((xO % 3 : Nat) : Int) →
      B' (11, i, j, 0) = some (gl 50 1 (xI % 4) (xI % 4) (fun t u => u = .pointer (some ⟨E' (20, i, j, t), 0, none⟩))) → (∀ t, t < xI % 4 → ∃ cc, B' (20, i, j, t) = some (vals 55 9 (ins0 cc))) →
      B' (3, i, 0, 0) = some (vals 45 (n * 6) D') → (∀ s, s < j * 6 ∨ j * 6 + 6 ≤ s → D' s = D s) → D' (j * 6 + 2) = .int .u8 (z2 : Nat) → D' (j * 6 + 5) = .int .i64 ((xO % 3 : Nat) : Int) → D' (j * 6) = .int .i64 z0 → D' (j * 6 + 3) = .pointer none → (∃ cap, Slg E' B' (13, i, j, 0) 50 (xI % 4) cap (fun t u => u = .pointer (some ⟨E' (20, i, j, t), 0, none⟩)) (D' (j * 6 + 1))) → (∃ cap, Slg E' B' (14, i, j, 0) 40 l cap q4 (D' (j * 6 + 4))) → Q .normal (F y) w') :
    (((Ybaz.f3.body.bind (codeAt 51)).getD .skip)).wp Ybaz.prog Q (F f) w := by
  conv => arg 2; whnf
  have hget := hF.get
  have hmk := hF.up
  have HQ : Hid _ := hQ
  have HS : Hid (Sg w0 w E B) := hS
  have H12 : Hid (0 < l → p4 = some ⟨E (12, i, j, 0), 0, none⟩ ∧ ∃ v12, B (12, i, j, 0) = some (vals 40 1 (fun _ => v12)) ∧ v12.oneCell' = true ∧ q4 0 v12) := h12
  have H3 : Hid (B (3, i, 0, 0) = some (vals 45 (n * 6) D)) := h3
  have HB : Hid (B (10, i, j, 0) = some (vals 45 6 D0)) := hb
  have H21 : Hid (B (21, i, j, 0) = some (vals 49 4 (dat xK xS xI xO))) := h21
  obtain ⟨k, hk⟩ : ∃ k, k = xI % 4 := ⟨_, rfl⟩
  have hmod : (xI : Int) % 4 = (k : Int) := by omega
  have HKI : Hid (k = xI % 4) := hk
  have hk3 : k ≤ 3 := by omega
  have d2 : w.cell? ⟨E (21, i, j, 0), 2, none⟩ = some (.int .u8 (xI : Nat)) := hS.val h21 (i := 2) (by omega)
  clear hQ hS h12 h3 hb h21 hk
  refine wp_seq_hid (fun K HK => ?_)
  go_wp2
  refine HK.out _ _ ?_
  clear HK d2
  have hm38 := run_mk mty38 k k (Nat.le_refl _) (by omega)
  have hS1 := HS.out.makeV (.pointer none) k 50 (11, i, j, 0)
  have hb' : lup B (11, i, j, 0) (some (vals 50 k (fun _ => .pointer none))) (10, i, j, 0) = some (vals 45 6 D0) := by rw [lup_other _ _ (by simp)]; exact HB.out
  have le : lup E (11, i, j, 0) w.heap.size (10, i, j, 0) = E (10, i, j, 0) := lup_other _ _ (by simp)
  have k1 := hS1.val hb' (i := 1) (by omega)
  have kf := hS1.frz hb' 1
  have hS2 := hS1.setVal hb' 1 (.slice (some ⟨w.heap.size, 0, none⟩) k k)
  rw [le] at k1 kf hS2
  rw [hb1] at k1
  have HS2 : Hid (Sg w0 ((w.alloc (.cells (madeCells #[.pointer none] k) 50)).setCell ⟨E (10, i, j, 0), 1, none⟩ (.slice (some ⟨w.heap.size, 0, none⟩) k k)) (lup E (11, i, j, 0) w.heap.size) (lup (lup B (11, i, j, 0) (some (vals 50 k (fun _ => .pointer none)))) (10, i, j, 0) (some (vals 45 6 (upd D0 1 (.slice (some ⟨w.heap.size, 0, none⟩) k k)))))) := hS2
  clear hS1 hS2 hb' le
  refine wp_seq_hid (fun K HK => ?_)
  go_wp2
  refine HK.out _ _ ?_
  clear HK k1 kf hm38
  obtain ⟨E1, hE1⟩ : ∃ E1, E1 = lup E (11, i, j, 0) w.heap.size := ⟨_, rfl⟩
  obtain ⟨B1, hB1⟩ : ∃ B1, B1 = lup (lup B (11, i, j, 0) (some (vals 50 k (fun _ => .pointer none)))) (10, i, j, 0) (some (vals 45 6 (upd D0 1 (.slice (some ⟨w.heap.size, 0, none⟩) k k)))) := ⟨_, rfl⟩
  rw [← hE1, ← hB1] at HS2
  have e11 : w.heap.size = E1 (11, i, j, 0) := by rw [hE1, lup_same]
  rw [e11] at hB1 HS2 ⊢
  have HE1 : Hid (∀ l : Lab, l ≠ (11, i, j, 0) → E1 l = E l) := fun l hl => by rw [hE1, lup_other _ _ hl]
  have HB1 : Hid (∀ l : Lab, l ≠ (11, i, j, 0) → l ≠ (10, i, j, 0) → B1 l = B l) := fun l h1 h2 => by rw [hB1, lup_other _ _ h2, lup_other _ _ h1]
  have b10 : B1 (10, i, j, 0) = some (vals 45 6 (upd D0 1 (.slice (some ⟨E1 (11, i, j, 0), 0, none⟩) k k))) := by rw [hB1]; exact lup_same _ _ _
  have b11 : B1 (11, i, j, 0) = some (vals 50 k (fun _ => .pointer none)) := by rw [hB1, lup_other _ _ (by simp)]; exact lup_same _ _ _
  clear hE1 hB1 e11
  generalize (w.alloc (.cells (madeCells #[.pointer none] k) 50)).setCell ⟨E (10, i, j, 0), 1, none⟩ (.slice (some ⟨E1 (11, i, j, 0), 0, none⟩) k k) = w1 at HS2 ⊢
  have e10' : E1 (10, i, j, 0) = E (10, i, j, 0) := HE1.out _ (by simp)
  refine wp_seq_hid (fun K HK => ?_)
  refine b53 hF (i := i) (j := j) (k := k) (c := c) hk3 hc HS2.out b10 (upd_same _ _ _) b11 (by simp [fup_at, h17]) (by rw [e10']; simp [fup_at, h27]) (by simp [fup_at]) ?_
  intro y w2 E2 B2 hy y17 hS2 hE2 hB2 hb11 hins
  refine HK.out _ _ ?_
  clear HK
  obtain ⟨D1, hD1⟩ : ∃ D1, D1 = upd D0 1 (.slice (some ⟨E1 (11, i, j, 0), 0, none⟩) k k) := ⟨_, rfl⟩
  rw [← hD1] at b10
  have nT : ∀ l : Lab, ¬ T51 i j l → ¬ (l.1 = 20 ∧ l.2.1 = i ∧ l.2.2.1 = j) ∧ l ≠ (11, i, j, 0) := fun l h => ⟨fun h1 => h (.inr (.inr (.inr h1))), fun h1 => h (.inl h1)⟩
  have e2 : ∀ l : Lab, ¬ T51 i j l → E2 l = E l := fun l h => by rw [hE2 l (nT l h).1]; exact HE1.out l (nT l h).2
  have e2b : ∀ l : Lab, ¬ T51 i j l → l ≠ (10, i, j, 0) → B2 l = B l := fun l h h' => by rw [hB2 l (nT l h).1 (nT l h).2]; exact HB1.out l (nT l h).2 h'
  have b2 : B2 (10, i, j, 0) = some (vals 45 6 D1) := by rw [hB2 _ (by simp) (by simp)]; exact b10
  have tn : ∀ a, a ≠ 11 → a ≠ 13 → a ≠ 14 → a ≠ 20 → ∀ x y z, ¬ T51 i j (a, x, y, z) := fun a h1 h2 h3 h4 x y z h => by
    rcases h with h | h | h | h
    · exact h1 (lab4 h).1
    · exact h2 (lab4 h).1
    · exact h3 (lab4 h).1
    · exact h4 h.1
  have y24 : y 24 = .slice (some ⟨E (3, i, 0, 0), 0, none⟩) n n := (hy 24 (by omega) (by omega) (by omega)).trans (by simp [fup_at, h24])
  have y25 : y 25 = .int .i64 (j : Nat) := (hy 25 (by omega) (by omega) (by omega)).trans (by simp [fup_at, h25])
  have y26 : y 26 = .pointer (some ⟨E (21, i, j, 0), 0, none⟩) := (hy 26 (by omega) (by omega) (by omega)).trans (by simp [fup_at, h26])
  have y27 : y 27 = .pointer (some ⟨E (10, i, j, 0), 0, none⟩) := (hy 27 (by omega) (by omega) (by omega)).trans (by simp [fup_at, h27])
  have HYf : Hid (∀ s, s < 178 → s ≠ 17 → s ≠ 29 → s ≠ 30 → y s = f s) := fun s h1 h2 h3 h4 => (hy s (by omega) h2 h4).trans (by
    simp only [fup_at]
    repeat rw [if_neg (by omega)])
  have HS3 : Hid (Sg w0 w2 E2 B2) := hS2
  have HE2 : Hid (∀ l : Lab, ¬ T51 i j l → E2 l = E l) := e2
  have HB2 : Hid (∀ l : Lab, ¬ T51 i j l → l ≠ (10, i, j, 0) → B2 l = B l) := e2b
  have HTN : Hid (∀ a, a ≠ 11 → a ≠ 13 → a ≠ 14 → a ≠ 20 → ∀ x y z, ¬ T51 i j (a, x, y, z)) := tn
  have HB11 : Hid (B2 (11, i, j, 0) = some (gl 50 1 k k (fun t u => u = .pointer (some ⟨E2 (20, i, j, t), 0, none⟩)))) := hb11
  have HINS : Hid (∀ t, t < k → ∃ cc, B2 (20, i, j, t) = some (vals 55 9 (ins0 cc))) := hins
  have e11' : E2 (11, i, j, 0) = E1 (11, i, j, 0) := hE2 _ (by simp)
  have HD1 : Hid (D1 0 = .int .i64 z0 ∧ D1 1 = .slice (some ⟨E2 (11, i, j, 0), 0, none⟩) k k ∧ D1 2 = .int .u8 (z2 : Nat) ∧ D1 3 = .pointer none ∧ D1 4 = .slice p4 l l ∧ D1 5 = .int .i64 0) := by
    rw [hD1, e11']
    exact ⟨(upd_other _ _ (by omega)).trans hb0, upd_same _ _ _, (upd_other _ _ (by omega)).trans hb2, (upd_other _ _ (by omega)).trans hb3, (upd_other _ _ (by omega)).trans hb4, (upd_other _ _ (by omega)).trans hb5⟩
  have HBB2 : Hid (B2 (10, i, j, 0) = some (vals 45 6 D1)) := b2
  have HY17 : Hid (y 17 = .int .i64 ((c + k : Nat) : Int)) := y17
  obtain ⟨zz, hzz⟩ : ∃ zz, zz = xO % 3 := ⟨_, rfl⟩
  have hmodz : (xO : Int) % 3 = (zz : Int) := by omega
  have HZZ : Hid (zz = xO % 3) := hzz
  have hz3 : zz < 3 := by omega
  have q10 : E2 (10, i, j, 0) = E (10, i, j, 0) := e2 _ (tn 10 (by omega) (by omega) (by omega) (by omega) _ _ _)
  have q21 : E2 (21, i, j, 0) = E (21, i, j, 0) := e2 _ (tn 21 (by omega) (by omega) (by omega) (by omega) _ _ _)
  have d3 : w2.cell? ⟨E (21, i, j, 0), 3, none⟩ = some (.int .u8 (xO : Nat)) := by
    have := hS2.val ((e2b (21, i, j, 0) (tn 21 (by omega) (by omega) (by omega) (by omega) _ _ _) (by simp)).trans H21.out) (i := 3) (by omega)
    rw [q21] at this
    exact this
  have k5 := hS2.val b2 (i := 5) (by omega)
  have kf := hS2.frz b2 5
  rw [q10] at k5 kf
  rw [HD1.out.2.2.2.2.2] at k5
  have HSET : Hid (∀ v, Sg w0 (w2.setCell ⟨E (10, i, j, 0), 5, none⟩ v) E2 (lup B2 (10, i, j, 0) (some (vals 45 6 (upd D1 5 v))))) := fun v => by
    have := hS2.setVal b2 5 v
    rwa [q10] at this
  clear hS2 hE2 hB2 e2 e2b b2 tn hb11 hins b10 b11 y17 hzz HS HS2 HB1 HE1 HB e10' h17 h24 h25 h26 h27 hb0 hb1 hb2 hb3 hb4 hb5 hD1 e11' q10 hy nT hmod
  refine wp_seq_hid (fun K HK => ?_)
  have HNX : Hid (∀ y' w' B5 D5, (∀ s, s < 203 → y' s = y s) → Sg w0 w' E2 B5 → (∀ l : Lab, l ≠ (10, i, j, 0) → B5 l = B2 l) → B5 (10, i, j, 0) = some (vals 45 6 D5) → (∀ s, s ≠ 5 → D5 s = D1 s) → D5 5 = .int .i64 (zz : Nat) → K (F y') w') := by
    intro y' w' B5 D5 hy' hS5 hB5 hb5 hD5 hD55
    refine HK.out _ _ ?_
    clear HK
    have g0 : D5 0 = .int .i64 z0 := (hD5 0 (by omega)).trans HD1.out.1
    have g1 : D5 1 = .slice (some ⟨E2 (11, i, j, 0), 0, none⟩) k k := (hD5 1 (by omega)).trans HD1.out.2.1
    have g2 : D5 2 = .int .u8 (z2 : Nat) := (hD5 2 (by omega)).trans HD1.out.2.2.1
    have g3 : D5 3 = .pointer none := (hD5 3 (by omega)).trans HD1.out.2.2.2.1
    have g4 : D5 4 = .slice p4 l l := (hD5 4 (by omega)).trans HD1.out.2.2.2.2.1
    have tn := HTN.out
    have u3 : E2 (3, i, 0, 0) = E (3, i, 0, 0) := HE2.out _ (tn 3 (by omega) (by omega) (by omega) (by omega) _ _ _)
    have u10 : E2 (10, i, j, 0) = E (10, i, j, 0) := HE2.out _ (tn 10 (by omega) (by omega) (by omega) (by omega) _ _ _)
    have u12 : E2 (12, i, j, 0) = E (12, i, j, 0) := HE2.out _ (tn 12 (by omega) (by omega) (by omega) (by omega) _ _ _)
    have hk' := HKI.out
    have hz' := HZZ.out
    refine b63 hF (i := i) (j := j) (n := n) (k := k) (q4 := q4) hj hn hk3 hS5 hb5 g0 g1 g2 g3 g4 hD55 hl ?_ ((hB5 _ (by simp)).trans HB11.out) (D := D) ?_ (by rw [u3, hy' 24 (by omega)]; exact y24) ((hy' 25 (by omega)).trans y25) (by rw [u10, hy' 27 (by omega)]; exact y27) ?_
    · intro h
      obtain ⟨h1, v12, h2, h3, h4⟩ := H12.out h
      exact ⟨by rw [u12]; exact h1, v12, by rw [hB5 _ (by simp), HB2.out _ (tn 12 (by omega) (by omega) (by omega) (by omega) _ _ _) (by simp)]; exact h2, h3, h4⟩
    · rw [hB5 _ (by simp), HB2.out _ (tn 3 (by omega) (by omega) (by omega) (by omega) _ _ _) (by simp)]
      exact H3.out
    · intro y6 w6 E6 B6 D6 hy6 hS6 hE6 hB6 hb6 hD6 hd2 hd5 hd0 hd3 hd1 hd4
      have nT : ∀ l : Lab, ¬ T51 i j l → l ≠ (13, i, j, 0) ∧ l ≠ (14, i, j, 0) := fun l h => ⟨fun h1 => h (.inr (.inl h1)), fun h1 => h (.inr (.inr (.inl h1)))⟩
      have u20 : ∀ t, E6 (20, i, j, t) = E2 (20, i, j, t) := fun t => hE6 _ (by simp) (by simp)
      rw [hz'] at hD55 hd5
      rw [hk'] at g1 hd1
      refine HQ.out y6 w6 E6 B6 D6 D5 (fun s h1 h2 h3 h4 => ?_) ?_ hS6 (fun l hl => ?_) (fun l hl h1 h2 => ?_) ((hB6 _ (by simp) (by simp) (by simp)).trans hb5) g0 ?_ g2 g3 g4 hD55 ?_ (fun t ht => ?_) hb6 hD6 hd2 hd5 hd0 hd3 ?_ hd4
      · rw [hy6 s (by omega), hy' s (by omega)]; exact HYf.out s h1 h2 h3 h4
      · rw [hy6 17 (by omega), hy' 17 (by omega), ← hk']; exact HY17.out
      · rw [hE6 l (nT l hl).1 (nT l hl).2]; exact HE2.out l hl
      · rw [hB6 l (nT l hl).1 (nT l hl).2 h2, hB5 l h1]; exact HB2.out l hl h1
      · rw [hE6 _ (by simp) (by simp)]; exact g1
      · rw [hB6 _ (by simp) (by simp) (by simp), hB5 _ (by simp), ← hk']
        simp only [u20]
        exact HB11.out
      · obtain ⟨cc, hcc⟩ := HINS.out t (by omega)
        exact ⟨cc, by rw [hB6 _ (by simp) (by simp) (by simp), hB5 _ (by simp)]; exact hcc⟩
      · simp only [u20]; exact hd1
  refine wp_seq_hid (fun K2 HK2 => ?_)
  go_wp2
  refine HK2.out _ _ ?_
  clear HK2 d3
  refine wp_block ?_
  rcases (show zz = 0 ∨ zz = 1 ∨ zz = 2 by omega) with e | e | e
  · subst e
    go_wp2
    refine hF.cond (by omega) rfl (fun hh => by simp at hh) (fun hh => ?_)
    clear hh
    go_wp2
    refine hF.cond (by omega) rfl (fun hh => by simp at hh) (fun hh => ?_)
    clear hh
    go_wp2
    refine HNX.out _ _ B2 D1 (fun s hs => ?_) HS3.out (fun _ _ => rfl) HBB2.out (fun _ _ => rfl) HD1.out.2.2.2.2.2
    simp only [fup_at]
    repeat rw [if_neg (by omega)]
  · subst e
    go_wp2
    refine hF.cond (by omega) rfl (fun hh => ?_) (fun hh => by simp at hh)
    clear hh
    go_wp2
    refine HNX.out _ _ _ _ (fun s hs => ?_) (HSET.out _) (fun l hl => lup_other _ _ hl) (lup_same _ _ _) (fun s hs => upd_other _ _ hs) (upd_same _ _ _)
    simp only [fup_at]
    repeat rw [if_neg (by omega)]
  · subst e
    go_wp2
    refine hF.cond (by omega) rfl (fun hh => by simp at hh) (fun hh => ?_)
    clear hh
    go_wp2
    refine hF.cond (by omega) rfl (fun hh => ?_) (fun hh => by simp at hh)
    clear hh
    go_wp2
    refine HNX.out _ _ _ _ (fun s hs => ?_) (HSET.out _) (fun l hl => lup_other _ _ hl) (lup_same _ _ _) (fun s hs => upd_other _ _ hs) (upd_same _ _ _)
    simp only [fup_at]
    repeat rw [if_neg (by omega)]
end Go.Proofs.YbulkexmzaGreat
