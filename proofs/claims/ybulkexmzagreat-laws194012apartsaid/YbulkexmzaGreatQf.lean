/-
  The law: one block is laid (regions 36 to 65), all blocks of a function are laid (regions 33 to 65, 35).
-/
import Derived.Test.YbulkexmzaGreatQe
namespace Go.Proofs.YbulkexmzaGreat
open Go.RowKit
attribute [local go_sem] fup_at
def T36 (i j : Nat) (l : Lab) : Prop := T42 i j l ∨ l = (21, i, j, 0)
def fdv (P : Nat) (rs : Bool) (ba : Option Addr) (L bc : Nat) : Nat → Value := litv #[.int .u8 (P : Nat), .bool rs, .slice ba L bc]
set_option maxHeartbeats 4000000 in
set_option maxRecDepth 100000 in
theorem b36 {F : (Nat → Value) → Act} (hF : Fr 559 F) {X : Ain} (hX : Aok X) {w0 w : World} {ra : Option Addr} {rb ro : Nat} {ba : Nat → Option Addr} {bc bb bo : Nat → Nat} (hA : Arg w0 X ra rb ro ba bc bb bo) {E : Lab → Nat} {B : Lab → Option Lb} {i j c : Nat} {T : Nat → Int} {D f : Nat → Value} {Q : Exit → Act → World → Prop} (hi : i < X.N) (hj : j < X.n i) (hc : c ≤ 1000000000)
    (hS : Sg w0 w E B) (hb2 : B (2, i, 0, 0) = some (bsr E i (X.n i))) (hb : B (10, i, j, 0) = some (vals 45 6 (blk0 j))) (hb4 : B (4, i, 0, 0) = some (arr (X.n i) T))
    (h3 : B (3, i, 0, 0) = some (vals 45 (X.n i * 6) D)) (h9 : B (9, i, 0, 0) = some (vals 25 3 (fdv (X.P i) (X.rs i) (ba i) (X.L i) (bc i))))
    (h17 : f 17 = .int .i64 (c : Nat)) (h19 : f 19 = .pointer (some ⟨E (9, i, 0, 0), 0, none⟩)) (h20 : f 20 = .int .i64 (X.n i : Nat)) (h21 : f 21 = .slice (some ⟨E (2, i, 0, 0), 0, none⟩) (X.n i) (X.n i)) (h23 : f 23 = .slice (some ⟨E (4, i, 0, 0), 0, none⟩) (X.n i) (X.n i)) (h24 : f 24 = .slice (some ⟨E (3, i, 0, 0), 0, none⟩) (X.n i) (X.n i)) (h25 : f 25 = .int .i64 (j : Nat))
    (hQ : ∀ y w' E' B' D', (∀ s, s < 122 → s ≠ 17 → s ≠ 26 → s ≠ 27 → s ≠ 28 → s ≠ 29 → s ≠ 30 → y s = f s) → y 17 = .int .i64 ((c + (X.fd i).ki j : Nat) : Int) → Sg w0 w' E' B' → (∀ l : Lab, ¬ T36 i j l → E' l = E l) → (∀ l : Lab, ¬ T36 i j l → l ≠ (10, i, j, 0) → l ≠ (3, i, 0, 0) → l ≠ (4, i, 0, 0) → B' l = B l) →
      Bdj E' B' i (X.fd i) j → B' (4, i, 0, 0) = some (arr (X.n i) (upd T j (tgi (X.fd i) j))) → B' (3, i, 0, 0) = some (vals 45 (X.n i * 6) D') → (∀ s, s < j * 6 ∨ j * 6 + 6 ≤ s → D' s = D s) → Snb E' B' i (X.fd i) D' j → Q .normal (F y) w') :
    (hd1 ((Ybaz.f3.body.bind (codeAt 36)).getD .skip)).wp Ybaz.prog Q (F f) w := by
  conv => arg 2; whnf
  refine wp_block ?_
  have hget := hF.get
  have hmk := hF.up
  have HQ : Hid _ := hQ
  have HS : Hid (Sg w0 w E B) := hS
  have H2 : Hid (B (2, i, 0, 0) = some (bsr E i (X.n i))) := hb2
  have H3 : Hid (B (3, i, 0, 0) = some (vals 45 (X.n i * 6) D)) := h3
  have H4 : Hid (B (4, i, 0, 0) = some (arr (X.n i) T)) := hb4
  have HB : Hid (B (10, i, j, 0) = some (vals 45 6 (blk0 j))) := hb
  have H9 : Hid (B (9, i, 0, 0) = some (vals 25 3 (fdv (X.P i) (X.rs i) (ba i) (X.L i) (bc i)))) := h9
  have HX : Hid (Aok X) := hX
  have HA : Hid (Arg w0 X ra rb ro ba bc bb bo) := hA
  have hnm := hX.n_le hi
  obtain ⟨n, hn⟩ : ∃ n, n = X.n i := ⟨_, rfl⟩
  have HN : Hid (n = X.n i) := hn
  rw [← hn] at h20 h21 h23 h24 hj hnm
  clear hQ hS hb2 h3 hb4 hb h9 hX hA hn
  refine wp_seq_hid (fun K HK => ?_)
  go_wp2
  refine HK.out _ _ ?_
  clear HK
  have hS1 := HS.out.newA #[.int .u8 0, .int .u8 0, .int .u8 0, .int .u8 0] 49 (21, i, j, 0) (n := 4) rfl
  obtain ⟨E1, hE1⟩ : ∃ E1, E1 = lup E (21, i, j, 0) w.heap.size := ⟨_, rfl⟩
  obtain ⟨B1, hB1⟩ : ∃ B1, B1 = lup B (21, i, j, 0) (some (vals 49 4 (litv #[.int .u8 0, .int .u8 0, .int .u8 0, .int .u8 0]))) := ⟨_, rfl⟩
  have e21 : w.heap.size = E1 (21, i, j, 0) := by rw [hE1, lup_same]
  rw [← hE1, ← hB1] at hS1
  rw [e21]
  have HS1 : Hid (Sg w0 (w.alloc (.cells #[.int .u8 0, .int .u8 0, .int .u8 0, .int .u8 0] 49)) E1 B1) := hS1
  have HE1 : Hid (∀ l : Lab, l ≠ (21, i, j, 0) → E1 l = E l) := fun l hl => by rw [hE1, lup_other _ _ hl]
  have HB1 : Hid (∀ l : Lab, l ≠ (21, i, j, 0) → B1 l = B l) := fun l hl => by rw [hB1, lup_other _ _ hl]
  have b21 : B1 (21, i, j, 0) = some (vals 49 4 (litv #[.int .u8 0, .int .u8 0, .int .u8 0, .int .u8 0])) := by rw [hB1, lup_same]
  clear hS1 hE1 hB1 e21
  generalize w.alloc (.cells #[.int .u8 0, .int .u8 0, .int .u8 0, .int .u8 0] 49) = w1 at HS1 ⊢
  have k9 : w1.cell? ⟨E (9, i, 0, 0), 2, none⟩ = some (.slice (ba i) (X.L i) (bc i)) := by
    have := HS1.out.val ((HB1.out (9, i, 0, 0) (by simp)).trans H9.out) (i := 2) (by omega)
    rw [HE1.out _ (by simp)] at this
    exact this
  have g0 : w1.cell? ⟨E1 (21, i, j, 0), 0, none⟩ = some (.int .u8 0) := HS1.out.val b21 (i := 0) (by omega)
  have gf := HS1.out.frz b21
  have HSET : Hid (∀ v, Sg w0 (w1.setCell ⟨E1 (21, i, j, 0), 0, none⟩ v) E1 (lup B1 (21, i, j, 0) (some (vals 49 4 (upd (litv #[.int .u8 0, .int .u8 0, .int .u8 0, .int .u8 0]) 0 v))))) := fun v => HS1.out.setVal b21 0 v
  refine wp_seq_hid (fun K HK => ?_)
  have HNX : Hid (∀ y' w2 B2, (∀ s, s < 124 → s ≠ 26 → y' s = f s) → y' 26 = .pointer (some ⟨E1 (21, i, j, 0), 0, none⟩) → Sg w0 w2 E1 B2 → (∀ l : Lab, l ≠ (21, i, j, 0) → B2 l = B l) → B2 (21, i, j, 0) = some (vals 49 4 (dat (X.K i j) (X.S i j) (X.I i j) (X.O i j))) → K (F y') w2) := by
    intro y' w2 B2 hy' y26 hS2 hB2 h21d
    refine HK.out _ _ ?_
    clear HK k9 g0 gf
    have y20 := (hy' 20 (by omega) (by omega)).trans h20
    have y21 := (hy' 21 (by omega) (by omega)).trans h21
    have y23 := (hy' 23 (by omega) (by omega)).trans h23
    have y25 := (hy' 25 (by omega) (by omega)).trans h25
    have HY : Hid (∀ s, s < 124 → s ≠ 26 → y' s = f s) := hy'
    clear hy'
    have hjn : j < X.n i := by rw [← HN.out]; exact hj
    have kb : w2.cell? ⟨E (2, i, 0, 0), j, none⟩ = some (.pointer (some ⟨E (10, i, j, 0), 0, none⟩)) := by
      have := hS2.val ((hB2 (2, i, 0, 0) (by simp)).trans H2.out) (i := j) hjn
      rw [HE1.out _ (by simp)] at this
      exact this
    have b4 : B2 (4, i, 0, 0) = some (arr (X.n i) T) := (hB2 _ (by simp)).trans H4.out
    have k4 := hS2.arr b4 (i := j) hjn
    have k4f := hS2.frz b4 j
    have hS3 := hS2.setArr b4 j (-1)
    rw [HE1.out _ (by simp)] at k4 k4f hS3
    have HS3 : Hid (Sg w0 (w2.setCell ⟨E (4, i, 0, 0), j, none⟩ (.int .i64 (-1))) E1 (lup B2 (4, i, 0, 0) (some (arr (X.n i) (upd T j (-1)))))) := hS3
    have HB2 : Hid (∀ l : Lab, l ≠ (21, i, j, 0) → B2 l = B l) := hB2
    have H21d : Hid (B2 (21, i, j, 0) = some (vals 49 4 (dat (X.K i j) (X.S i j) (X.I i j) (X.O i j)))) := h21d
    clear hS2 hS3 hB2 h21d b4
    refine wp_seq_hid (fun K2 HK2 => ?_)
    go_wp2
    refine HK2.out _ _ ?_
    clear HK2 kb
    refine wp_seq_hid (fun K2 HK2 => ?_)
    go_wp2
    refine HK2.out _ _ ?_
    clear HK2 k4 k4f
    generalize w2.setCell ⟨E (4, i, 0, 0), j, none⟩ (.int .i64 (-1)) = w3 at HS3 ⊢
    have v2 : E1 (2, i, 0, 0) = E (2, i, 0, 0) := HE1.out _ (by simp)
    have v3 : E1 (3, i, 0, 0) = E (3, i, 0, 0) := HE1.out _ (by simp)
    have v4 : E1 (4, i, 0, 0) = E (4, i, 0, 0) := HE1.out _ (by simp)
    have v10 : ∀ t, E1 (10, i, t, 0) = E (10, i, t, 0) := fun t => HE1.out _ (by simp)
    have hbs : bsr E1 i (X.n i) = bsr E i (X.n i) := by unfold bsr; congr 1; funext t; rw [v10]
    refine b42 hF HX.out (i := i) (j := j) (c := c) (T := T) (D := D) hi hjn hc HS3.out (by rw [lup_other _ _ (by simp), HB2.out _ (by simp), hbs]; exact H2.out) (by rw [lup_other _ _ (by simp), HB2.out _ (by simp)]; exact HB.out) (lup_same _ _ _) (by rw [lup_other _ _ (by simp), HB2.out _ (by simp)]; exact H3.out) (by rw [lup_other _ _ (by simp)]; exact H21d.out) ?_ ?_ ?_ ?_ ?_ ?_ ?_ ?_ ?_
    · simp only [fup_at]; repeat rw [if_neg (by omega)]
      exact (HY.out 17 (by omega) (by omega)).trans h17
    · rw [← HN.out]; simp only [fup_at]; repeat rw [if_neg (by omega)]
      exact y20
    · rw [← HN.out, v2]; simp only [fup_at]; repeat rw [if_neg (by omega)]
      exact y21
    · rw [← HN.out, v4]; simp only [fup_at]; repeat rw [if_neg (by omega)]
      exact y23
    · rw [← HN.out, v3]; simp only [fup_at]; repeat rw [if_neg (by omega)]
      exact (HY.out 24 (by omega) (by omega)).trans h24
    · simp only [fup_at]; repeat rw [if_neg (by omega)]
      exact y25
    · simp only [fup_at]; repeat rw [if_neg (by omega)]
      exact y26
    · rw [v10]; simp [fup_at]
    · intro y6 w6 E6 B6 D6 hy6 y17 hS6 hE6 hB6 hbd hb4' hb3' hD6 hsn
      have nT : ∀ l : Lab, ¬ T36 i j l → ¬ T42 i j l ∧ l ≠ (21, i, j, 0) := fun l h => ⟨fun h1 => h (.inl h1), fun h1 => h (.inr h1)⟩
      refine HQ.out y6 w6 E6 B6 D6 (fun s h1 h2 h3 h4 h5 h6 h7 => ?_) y17 hS6 (fun l hl => ?_) (fun l hl h1 h2 h3 => ?_) hbd hb4' hb3' hD6 hsn
      · rw [hy6 s (by omega) h2 h5 h6 h7]
        simp only [fup_at]; repeat rw [if_neg (by omega)]
        exact HY.out s (by omega) h3
      · rw [hE6 l (nT l hl).1]; exact HE1.out l (nT l hl).2
      · rw [hB6 l (nT l hl).1 h1 h2 h3, lup_other _ _ h3]; exact HB2.out l (nT l hl).2
  go_wp2
  refine hF.cond (by omega) rfl (fun hh => ?_) (fun hh => ?_)
  · have hjL : j < X.L i := by simpa using hh
    clear hh
    have hba := HA.out.b i hi (by omega)
    rw [hba] at k9
    have r0 := old_cell HS1.out.since (HA.out.d0 i j hi hjL)
    have r1 := old_cell HS1.out.since (HA.out.d1 i j hi hjL)
    have r2 := old_cell HS1.out.since (HA.out.d2 i j hi hjL)
    have r3 := old_cell HS1.out.since (HA.out.d3 i j hi hjL)
    have g1 : w1.cell? ⟨E1 (21, i, j, 0), 1, none⟩ = some (.int .u8 0) := HS1.out.val b21 (i := 1) (by omega)
    have g2 : w1.cell? ⟨E1 (21, i, j, 0), 2, none⟩ = some (.int .u8 0) := HS1.out.val b21 (i := 2) (by omega)
    have g3 : w1.cell? ⟨E1 (21, i, j, 0), 3, none⟩ = some (.int .u8 0) := HS1.out.val b21 (i := 3) (by omega)
    go_wp2
    have s0 := HS1.out.setVal b21 0 (.int .u8 (X.K i j : Nat))
    have s1 := s0.setVal (lup_same _ _ _) 1 (.int .u8 (X.S i j : Nat))
    have s2 := s1.setVal (lup_same _ _ _) 2 (.int .u8 (X.I i j : Nat))
    have s3 := s2.setVal (lup_same _ _ _) 3 (.int .u8 (X.O i j : Nat))
    rw [lup_lup, lup_lup, lup_lup] at s3
    have s4 := s3.wkn (lup_same _ _ _) (vals 49 4 (dat (X.K i j) (X.S i j) (X.I i j) (X.O i j))) rfl rfl (fun s u hs hu => by
      have hs' : s < 4 := hs
      have hu' : u = upd (upd (upd (upd (litv #[.int .u8 0, .int .u8 0, .int .u8 0, .int .u8 0]) 0 (.int .u8 (X.K i j : Nat))) 1 (.int .u8 (X.S i j : Nat))) 2 (.int .u8 (X.I i j : Nat))) 3 (.int .u8 (X.O i j : Nat)) s := hu
      show u = dat _ _ _ _ s
      rw [hu']
      match s, hs' with
      | 0, _ => rfl
      | 1, _ => rfl
      | 2, _ => rfl
      | 3, _ => rfl)
    rw [lup_lup] at s4
    refine HNX.out _ _ _ (fun s hs h26 => ?_) (by simp [fup_at]) s4 (fun l hl => ?_) (lup_same _ _ _)
    · simp only [fup_at]; repeat rw [if_neg (by omega)]
    · rw [lup_other _ _ hl]; exact HB1.out l hl
  · have hjL : X.L i ≤ j := by
      have : ¬ j < X.L i := by simpa using hh
      omega
    clear hh
    go_wp2
    obtain ⟨o0, o1, o2, o3⟩ := HX.out.off i j hjL
    have s4 := (HSET.out (.int .u8 1)).wkn (lup_same _ _ _) (vals 49 4 (dat (X.K i j) (X.S i j) (X.I i j) (X.O i j))) rfl rfl (fun s u hs hu => by
      have hs' : s < 4 := hs
      have hu' : u = upd (litv #[.int .u8 0, .int .u8 0, .int .u8 0, .int .u8 0]) 0 (.int .u8 1) s := hu
      show u = dat _ _ _ _ s
      rw [hu', o0, o1, o2, o3]
      match s, hs' with
      | 0, _ => rfl
      | 1, _ => rfl
      | 2, _ => rfl
      | 3, _ => rfl)
    rw [lup_lup] at s4
    refine HNX.out _ _ _ (fun s hs h26 => ?_) (by simp [fup_at]) s4 (fun l hl => ?_) (lup_same _ _ _)
    · simp only [fup_at]; repeat rw [if_neg (by omega)]
    · rw [lup_other _ _ hl]; exact HB1.out l hl
end Go.Proofs.YbulkexmzaGreat
