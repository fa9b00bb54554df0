/-
  The law: a block's kind and successor (regions 42 to 50), and what follows.
-/
import Derived.Test.YbulkexmzaGreatQd
namespace Go.Proofs.YbulkexmzaGreat
open Go.RowKit
attribute [local go_sem] fup_at
theorem gl_congr {e : TypeId} {len cap : Nat} {q q' : Nat → Value → Prop} (h : ∀ t u, t < len → (q t u ↔ q' t u)) : gl e 1 len cap q = gl e 1 len cap q' := by
  unfold gl
  congr 1
  funext t u
  exact propext ⟨fun h1 h2 => (h t u (by omega)).1 (h1 h2), fun h1 h2 => (h t u (by omega)).2 (h1 h2)⟩
theorem Slg.qcongr {E : Lab → Nat} {B : Lab → Option Lb} {k : Lab} {e : TypeId} {len cap : Nat} {q q' : Nat → Value → Prop} {v : Value} (hs : Slg E B k e len cap q v) (h : ∀ t u, t < len → (q t u ↔ q' t u)) : Slg E B k e len cap q' v := by
  unfold Slg at *
  rw [← gl_congr h]; exact hs
theorem qi_iff {E : Lab → Nat} {i : Nat} {ki : Nat → Nat} {j t : Nat} {u : Value} (ht : t < ki j) : u = .pointer (some ⟨E (20, i, j, t), 0, none⟩) ↔ qi E i (cat ki j j) t u := by
  refine ⟨qi_one ht, fun ⟨bt, h1, h2⟩ => ?_⟩
  rw [cat_one, List.getElem?_map, List.getElem?_range ht] at h1
  injection h1 with h1
  rw [h2, ← h1]; rfl
def T42 (i j : Nat) (l : Lab) : Prop := T51 i j l ∨ l = (12, i, j, 0)
/-- Block j of function i is laid. -/
structure Bdj (E : Lab → Nat) (B : Lab → Option Lb) (i : Nat) (d : Fd) (j : Nat) : Prop where
  blk : BlkOk E E B i d j j j
  su : ∀ t, d.tg j = some t → B (12, i, j, 0) = some (vals 40 1 (fun _ => .pointer (some ⟨E (10, i, t, 0), 0, none⟩)))
  xi : ∀ t, t < d.ki j → ∃ c, B (20, i, j, t) = some (vals 55 9 (ins0 c))
set_option maxHeartbeats 4000000 in
set_option maxRecDepth 100000 in
theorem b42 {F : (Nat → Value) → Act} (hF : Fr 559 F) {X : Ain} (hX : Aok X) {w0 w : World} {E : Lab → Nat} {B : Lab → Option Lb} {i j c : Nat} {T : Nat → Int} {D f : Nat → Value} {Q : Exit → Act → World → Prop} (hi : i < X.N) (hj : j < X.n i) (hc : c ≤ 1000000000)
    (hS : Sg w0 w E B) (hb2 : B (2, i, 0, 0) = some (bsr E i (X.n i))) (hb : B (10, i, j, 0) = some (vals 45 6 (blk0 j))) (hb4 : B (4, i, 0, 0) = some (arr (X.n i) (upd T j (-1))))
    (h3 : B (3, i, 0, 0) = some (vals 45 (X.n i * 6) D)) (hd21 : B (21, i, j, 0) = some (vals 49 4 (dat (X.K i j) (X.S i j) (X.I i j) (X.O i j))))
    (h17 : f 17 = .int .i64 (c : Nat)) (h20 : f 20 = .int .i64 (X.n i : Nat)) (h21 : f 21 = .slice (some ⟨E (2, i, 0, 0), 0, none⟩) (X.n i) (X.n i)) (h23 : f 23 = .slice (some ⟨E (4, i, 0, 0), 0, none⟩) (X.n i) (X.n i)) (h24 : f 24 = .slice (some ⟨E (3, i, 0, 0), 0, none⟩) (X.n i) (X.n i)) (h25 : f 25 = .int .i64 (j : Nat)) (h26 : f 26 = .pointer (some ⟨E (21, i, j, 0), 0, none⟩)) (h27 : f 27 = .pointer (some ⟨E (10, i, j, 0), 0, none⟩))
    (hQ : ∀ y w' E' B' D', (∀ s, s < 142 → s ≠ 17 → s ≠ 28 → s ≠ 29 → s ≠ 30 → y s = f s) → y 17 = .int .i64 ((c + (X.fd i).ki j : Nat) : Int) → Sg w0 w' E' B' → (∀ l : Lab, ¬ T42 i j l → E' l = E l) → (∀ l : Lab, ¬ T42 i j l → l ≠ (10, i, j, 0) → l ≠ (3, i, 0, 0) → l ≠ (4, i, 0, 0) → B' l = B l) →
      Bdj E' B' i (X.fd i) j → B' (4, i, 0, 0) = some (arr (X.n i) (upd T j (tgi (X.fd i) j))) → B' (3, i, 0, 0) = some (vals 45 (X.n i * 6) D') → (∀ s, s < j * 6 ∨ j * 6 + 6 ≤ s → D' s = D s) → Snb E' B' i (X.fd i) D' j → Q .normal (F y) w') :
    (((Ybaz.f3.body.bind (codeAt 42)).getD .skip)).wp Ybaz.prog Q (F f) w := by
  conv => arg 2; whnf
  have hget := hF.get
  have hmk := hF.up
  have HQ : Hid _ := hQ
  have HS : Hid (Sg w0 w E B) := hS
  have H2 : Hid (B (2, i, 0, 0) = some (bsr E i (X.n i))) := hb2
  have H3 : Hid (B (3, i, 0, 0) = some (vals 45 (X.n i * 6) D)) := h3
  have H4 : Hid (B (4, i, 0, 0) = some (arr (X.n i) (upd T j (-1)))) := hb4
  have HB : Hid (B (10, i, j, 0) = some (vals 45 6 (blk0 j))) := hb
  have H21 : Hid (B (21, i, j, 0) = some (vals 49 4 (dat (X.K i j) (X.S i j) (X.I i j) (X.O i j)))) := hd21
  have HX : Hid (Aok X) := hX
  have hnp := X.n_pos i
  have hnm := hX.n_le hi
  have hSl := hX.S i j
  obtain ⟨n, hn⟩ : ∃ n, n = X.n i := ⟨_, rfl⟩
  have HN : Hid (n = X.n i) := hn
  rw [← hn] at h20 h21 h23 h24 hj hnp hnm
  obtain ⟨zz, hzz⟩ : ∃ zz, zz = X.K i j % 3 := ⟨_, rfl⟩
  have hmodz : (X.K i j : Int) % 3 = (zz : Int) := by omega
  have HZZ : Hid (zz = X.K i j % 3) := hzz
  have hz3 : zz < 3 := by omega
  have d0 : w.cell? ⟨E (21, i, j, 0), 0, none⟩ = some (.int .u8 (X.K i j : Nat)) := hS.val hd21 (i := 0) (by omega)
  have d1 : w.cell? ⟨E (21, i, j, 0), 1, none⟩ = some (.int .u8 (X.S i j : Nat)) := hS.val hd21 (i := 1) (by omega)
  clear hQ hS hb2 h3 hb4 hb hd21 hX hn hzz
  refine wp_seq_hid (fun K HK => ?_)
  have HNX : Hid (∀ y' w' E5 B5 D5 p4 l, (∀ s, s < 142 → s ≠ 28 → y' s = f s) → Sg w0 w' E5 B5 → (∀ l : Lab, l ≠ (12, i, j, 0) → E5 l = E l) → (∀ l : Lab, l ≠ (12, i, j, 0) → l ≠ (10, i, j, 0) → l ≠ (4, i, 0, 0) → B5 l = B l) →
      B5 (10, i, j, 0) = some (vals 45 6 D5) → D5 0 = .int .i64 (j : Nat) → D5 1 = .slice none 0 0 → D5 2 = .int .u8 ((X.fd i).kd j : Nat) → D5 3 = .pointer none → D5 4 = .slice p4 l l → D5 5 = .int .i64 0 → .slice p4 l l = suv E5 i (X.fd i) j → l = (if (X.fd i).tg j = none then 0 else 1) →
      (∀ t, (X.fd i).tg j = some t → B5 (12, i, j, 0) = some (vals 40 1 (fun _ => .pointer (some ⟨E5 (10, i, t, 0), 0, none⟩)))) → B5 (4, i, 0, 0) = some (arr (X.n i) (upd T j (tgi (X.fd i) j))) → K (F y') w') := by
    intro y' w' E5 B5 D5 p4 l hy' hS5 hE5 hB5 hb5 g0 g1 g2 g3 g4 g5 hsu hl h12 h4
    refine HK.out _ _ ?_
    clear HK
    have hl1 : l ≤ 1 := by rw [hl]; split <;> omega
    have u3 : E5 (3, i, 0, 0) = E (3, i, 0, 0) := hE5 _ (by simp)
    have u10 : E5 (10, i, j, 0) = E (10, i, j, 0) := hE5 _ (by simp)
    have u21 : E5 (21, i, j, 0) = E (21, i, j, 0) := hE5 _ (by simp)
    have hnn := HN.out
    refine b51 hF (i := i) (j := j) (n := n) (c := c) (z0 := (j : Nat)) (D := D) (q4 := fun _ u => ∃ t, (X.fd i).tg j = some t ∧ u = .pointer (some ⟨E5 (10, i, t, 0), 0, none⟩)) (xK := X.K i j) (xS := X.S i j) (xI := X.I i j) (xO := X.O i j) hj (by omega) hc hS5 hb5 g0 g1 g2 g3 g4 g5 hl1 ?_ ?_ ((hB5 _ (by simp) (by simp) (by simp)).trans H21.out) ((hy' 17 (by omega) (by omega)).trans h17) (by rw [u3, hy' 24 (by omega) (by omega)]; exact h24) ((hy' 25 (by omega) (by omega)).trans h25) (by rw [u21, hy' 26 (by omega) (by omega)]; exact h26) (by rw [u10, hy' 27 (by omega) (by omega)]; exact h27) ?_
    · intro h
      cases ht : (X.fd i).tg j with
      | none => rw [ht, if_pos rfl] at hl; omega
      | some t =>
        have hs : Value.slice p4 l l = .slice (some ⟨E5 (12, i, j, 0), 0, none⟩) 1 1 := by rw [hsu]; unfold suv; rw [ht]
        injection hs with hs _ _
        exact ⟨hs, _, h12 t ht, rfl, t, rfl, rfl⟩
    · rw [hB5 _ (by simp) (by simp) (by simp), hnn]; exact H3.out
    · intro y6 w6 E6 B6 D6 D56 hy6 y17 hS6 hE6 hB6 hb6 p0 p1 p2 p3 p4' p5 h11 hins hb3 hD6 hd2 hd5 hd0 hd3 hd1 hd4
      have nT : ∀ l : Lab, ¬ T42 i j l → ¬ T51 i j l ∧ l ≠ (12, i, j, 0) := fun l h => ⟨fun h1 => h (.inl h1), fun h1 => h (.inr h1)⟩
      have tn : ∀ a, a ≠ 11 → a ≠ 13 → a ≠ 14 → a ≠ 20 → ∀ x y z, ¬ T51 i j (a, x, y, z) := fun a h1 h2 h3 h4 x y z h => by
        rcases h with h | h | h | h
        · exact h1 (lab4 h).1
        · exact h2 (lab4 h).1
        · exact h3 (lab4 h).1
        · exact h4 h.1
      have v10 : ∀ t, E6 (10, i, t, 0) = E5 (10, i, t, 0) := fun t => hE6 _ (tn 10 (by omega) (by omega) (by omega) (by omega) _ _ _)
      have v12 : E6 (12, i, j, 0) = E5 (12, i, j, 0) := hE6 _ (tn 12 (by omega) (by omega) (by omega) (by omega) _ _ _)
      have hki : (X.fd i).ki j = X.I i j % 4 := rfl
      have hps : (X.fd i).ps j = X.O i j % 3 := rfl
      rw [hnn] at hb3
      refine HQ.out y6 w6 E6 B6 D6 (fun s h1 h2 h3 h4 h5 => ?_) ?_ hS6 (fun l hl => ?_) (fun l hl h1 h2 h3 => ?_) ⟨⟨D56, _, X.I i j % 4, hb6, p0, p1, p2, p3, ?_, ?_, ?_⟩, fun t ht => ?_, hins⟩ ?_ hb3 hD6 ⟨?_, hd2, ?_, ?_, hd0, hd3⟩
      · rw [hy6 s (by omega) h2 h4 h5]; exact hy' s h1 h3
      · rw [hki]; exact y17
      · rw [hE6 l (nT l hl).1]; exact hE5 l (nT l hl).2
      · rw [hB6 l (nT l hl).1 h1 h2]; exact hB5 l (nT l hl).2 h1 h3
      · rw [p4', hsu]; unfold suv; rw [v12]
      · rw [hps]; exact p5
      · rw [cat_one_len, hki]
        refine .inr ⟨rfl, ?_, Nat.le_refl _, by unfold maxLen; omega⟩
        rw [h11]
        exact congrArg some (gl_congr (fun t u ht => qi_iff (ki := (X.fd i).ki) (by rw [hki]; exact ht)))
      · rw [hB6 _ (tn 12 (by omega) (by omega) (by omega) (by omega) _ _ _) (by simp) (by simp), v10]; exact h12 t ht
      · rw [hB6 _ (tn 4 (by omega) (by omega) (by omega) (by omega) _ _ _) (by simp) (by simp)]; exact h4
      · obtain ⟨cap, hcap⟩ := hd1
        rw [hki]
        exact ⟨cap, hcap.qcongr (fun t u ht => qi_iff (ki := (X.fd i).ki) (by rw [hki]; exact ht))⟩
      · obtain ⟨cap, hcap⟩ := hd4
        refine ⟨cap, l, ?_, hl⟩
        simp only [v10]
        exact hcap
      · rw [hps]; exact hd5
  have q4 : Hid (w.cell? ⟨E (4, i, 0, 0), j, none⟩ = some (.int .i64 (-1)) ∧ w.frozen? ⟨E (4, i, 0, 0), j, none⟩ = false) := by
    have h1 := HS.out.arr H4.out (i := j) (by rw [← HN.out]; exact hj)
    rw [upd_same] at h1
    exact ⟨h1, HS.out.frz H4.out j⟩
  have k2 : w.cell? ⟨E (10, i, j, 0), 2, none⟩ = some (.int .u8 0) := HS.out.val HB.out (i := 2) (by omega)
  have kf2 := HS.out.frz HB.out 2
  have hkd : (X.fd i).kd j = kdn (X.K i j) := rfl
  have htg : (X.fd i).tg j = if X.K i j % 3 = 0 then some ((j + 1 + X.S i j) % X.n i) else none := rfl
  have HTG : Hid ((X.fd i).kd j = kdn (X.K i j) ∧ (X.fd i).tg j = if X.K i j % 3 = 0 then some ((j + 1 + X.S i j) % X.n i) else none) := ⟨hkd, htg⟩
  clear hkd htg
  -- a block that does not jump
  have HNJ : Hid (∀ y' v, (∀ s, s < 142 → s ≠ 28 → y' s = f s) → X.K i j % 3 ≠ 0 → v = kdn (X.K i j) → K (F y') (w.setCell ⟨E (10, i, j, 0), 2, none⟩ (.int .u8 (v : Nat)))) := by
    intro y' v hy' hz hv
    have hs := HS.out.setVal HB.out 2 (.int .u8 (v : Nat))
    have htn : (X.fd i).tg j = none := by rw [HTG.out.2, if_neg hz]
    refine HNX.out y' _ E _ _ none 0 hy' hs (fun _ _ => rfl) (fun l _ h1 _ => lup_other _ _ h1) (lup_same _ _ _) ?_ ?_ ?_ ?_ ?_ ?_ ?_ ?_ ?_ ?_
    · rw [upd_other _ _ (by omega)]; rfl
    · rw [upd_other _ _ (by omega)]; rfl
    · rw [upd_same, HTG.out.1, hv]
    · rw [upd_other _ _ (by omega)]; rfl
    · rw [upd_other _ _ (by omega)]; rfl
    · rw [upd_other _ _ (by omega)]; rfl
    · unfold suv; rw [htn]
    · rw [htn, if_pos rfl]
    · intro t ht; rw [htn] at ht; cases ht
    · rw [lup_other _ _ (by simp), H4.out]
      unfold tgi
      rw [htn]
  refine wp_seq_hid (fun K2 HK2 => ?_)
  go_wp2
  refine HK2.out _ _ ?_
  clear HK2 d0
  refine wp_block ?_
  rcases (show zz = 0 ∨ zz = 1 ∨ zz = 2 by omega) with e | e | e
  · subst e
    go_wp2
    refine hF.cond (by omega) rfl (fun hh => ?_) (fun hh => by simp at hh)
    clear hh
    obtain ⟨j1, hj1⟩ : ∃ j1, j1 = j + 1 := ⟨_, rfl⟩
    obtain ⟨s1, hs1⟩ : ∃ s1, s1 = j + 1 + X.S i j := ⟨_, rfl⟩
    obtain ⟨t, ht⟩ : ∃ t, t = (j + 1 + X.S i j) % n := ⟨_, rfl⟩
    have hw1 : IntKind.i64.wrap ((j : Int) + 1) = (j1 : Int) := by rw [IntKind.wrap_i64] <;> omega
    have hw2 : IntKind.i64.wrap ((j1 : Int) + (X.S i j : Int)) = (s1 : Int) := by rw [IntKind.wrap_i64] <;> omega
    have hw3 : (s1 : Int) % (n : Int) = (t : Int) := by rw [ht, hs1]; exact (Int.natCast_emod _ _).symm
    have hn0 : ¬ (n : Int) = 0 := by omega
    have htn : t < n := by rw [ht]; exact Nat.mod_lt _ hnp
    have HT : Hid (t = (j + 1 + X.S i j) % n) := ht
    clear hj1 hs1 ht
    refine wp_seq_hid (fun K2 HK2 => ?_)
    go_wp2
    refine HK2.out _ _ ?_
    clear HK2 d1 hw1 hw2 hw3 k2 kf2
    obtain ⟨qa, qb⟩ := q4.out
    have HS1 : Hid (Sg w0 (w.setCell ⟨E (4, i, 0, 0), j, none⟩ (.int .i64 (t : Nat))) E (lup B (4, i, 0, 0) (some (arr (X.n i) (upd (upd T j (-1)) j (t : Nat)))))) := HS.out.setArr H4.out j (t : Nat)
    refine wp_seq_hid (fun K2 HK2 => ?_)
    go_wp2
    refine HK2.out _ _ ?_
    clear HK2 qa qb
    generalize w.setCell ⟨E (4, i, 0, 0), j, none⟩ (.int .i64 (t : Nat)) = w1 at HS1 ⊢
    have b1 : lup B (4, i, 0, 0) (some (arr (X.n i) (upd (upd T j (-1)) j (t : Nat)))) (10, i, j, 0) = some (vals 45 6 (blk0 j)) := by rw [lup_other _ _ (by simp)]; exact HB.out
    have k2 : w1.cell? ⟨E (10, i, j, 0), 2, none⟩ = some (.int .u8 0) := HS1.out.val b1 (i := 2) (by omega)
    have kf2 := HS1.out.frz b1 2
    have HS2 : Hid (Sg w0 (w1.setCell ⟨E (10, i, j, 0), 2, none⟩ (.int .u8 0)) E (lup (lup B (4, i, 0, 0) (some (arr (X.n i) (upd (upd T j (-1)) j (t : Nat))))) (10, i, j, 0) (some (vals 45 6 (upd (blk0 j) 2 (.int .u8 0)))))) := HS1.out.setVal b1 2 (.int .u8 0)
    clear b1
    refine wp_seq_hid (fun K2 HK2 => ?_)
    go_wp2
    refine HK2.out _ _ ?_
    clear HK2 k2 kf2
    generalize w1.setCell ⟨E (10, i, j, 0), 2, none⟩ (.int .u8 0) = w2 at HS2 ⊢
    obtain ⟨B2, hB2⟩ : ∃ B2, B2 = lup (lup B (4, i, 0, 0) (some (arr (X.n i) (upd (upd T j (-1)) j (t : Nat))))) (10, i, j, 0) (some (vals 45 6 (upd (blk0 j) 2 (.int .u8 0)))) := ⟨_, rfl⟩
    rw [← hB2] at HS2
    have b10 : B2 (10, i, j, 0) = some (vals 45 6 (upd (blk0 j) 2 (.int .u8 0))) := by rw [hB2]; exact lup_same _ _ _
    have b4 : B2 (4, i, 0, 0) = some (arr (X.n i) (upd (upd T j (-1)) j (t : Nat))) := by rw [hB2, lup_other _ _ (by simp)]; exact lup_same _ _ _
    have bo : ∀ l : Lab, l ≠ (10, i, j, 0) → l ≠ (4, i, 0, 0) → B2 l = B l := fun l h1 h2 => by rw [hB2, lup_other _ _ h1, lup_other _ _ h2]
    have kt : w2.cell? ⟨E (2, i, 0, 0), t, none⟩ = some (.pointer (some ⟨E (10, i, t, 0), 0, none⟩)) := HS2.out.val ((bo (2, i, 0, 0) (by simp) (by simp)).trans H2.out) (i := t) (by rw [← HN.out]; exact htn)
    have hS3 := HS2.out.new #[.pointer (some ⟨E (10, i, t, 0), 0, none⟩)] 40 (12, i, j, 0) (vals 40 1 (fun _ => .pointer (some ⟨E (10, i, t, 0), 0, none⟩))) rfl rfl (fun s u hu => by
      match s, hu with
      | 0, hu => simp at hu; exact hu.symm)
    have le : lup E (12, i, j, 0) w2.heap.size (10, i, j, 0) = E (10, i, j, 0) := lup_other _ _ (by simp)
    have b3 : lup B2 (12, i, j, 0) (some (vals 40 1 (fun _ => .pointer (some ⟨E (10, i, t, 0), 0, none⟩)))) (10, i, j, 0) = some (vals 45 6 (upd (blk0 j) 2 (.int .u8 0))) := by rw [lup_other _ _ (by simp)]; exact b10
    have k4 := hS3.val b3 (i := 4) (by omega)
    have kf4 := hS3.frz b3 4
    have hS4 := hS3.setVal b3 4 (.slice (some ⟨w2.heap.size, 0, none⟩) 1 1)
    rw [le] at k4 kf4 hS4
    have k4' : (w2.alloc (.cells #[.pointer (some ⟨E (10, i, t, 0), 0, none⟩)] 40)).cell? ⟨E (10, i, j, 0), 4, none⟩ = some (.slice none 0 0) := k4
    have HS4 : Hid _ := hS4
    have HBO : Hid ((∀ l : Lab, l ≠ (10, i, j, 0) → l ≠ (4, i, 0, 0) → B2 l = B l) ∧ B2 (4, i, 0, 0) = some (arr (X.n i) (upd (upd T j (-1)) j (t : Nat)))) := ⟨bo, b4⟩
    clear hS3 hS4 b3 k4 le b10 b4 bo hB2
    go_wp2
    have hK0 : X.K i j % 3 = 0 := HZZ.out.symm
    have htg : (X.fd i).tg j = some t := by rw [HTG.out.2, if_pos hK0, HT.out, HN.out]
    refine HNX.out _ _ _ _ _ (some ⟨w2.heap.size, 0, none⟩) 1 (fun s hs h28 => ?_) HS4.out (fun l hl => lup_other _ _ hl) (fun l h1 h2 h3 => ?_) (lup_same _ _ _) ?_ ?_ ?_ ?_ (upd_same _ _ _) ?_ ?_ ?_ ?_ ?_
    · simp only [fup_at]
      repeat rw [if_neg (by omega)]
    · rw [lup_other _ _ h2, lup_other _ _ h1]; exact HBO.out.1 l h2 h3
    · rw [upd_other _ _ (by omega), upd_other _ _ (by omega)]; rfl
    · rw [upd_other _ _ (by omega), upd_other _ _ (by omega)]; rfl
    · rw [upd_other _ _ (by omega), upd_same, HTG.out.1]
      unfold kdn
      rw [if_pos hK0]; rfl
    · rw [upd_other _ _ (by omega), upd_other _ _ (by omega)]; rfl
    · rw [upd_other _ _ (by omega), upd_other _ _ (by omega)]; rfl
    · unfold suv
      rw [htg, lup_same]
    · rw [htg, if_neg (by simp)]
    · intro t' ht'
      rw [htg] at ht'
      injection ht' with ht'
      subst ht'
      rw [lup_other _ _ (by simp), lup_same, lup_other _ _ (by simp)]
    · rw [lup_other _ _ (by simp), lup_other _ _ (by simp), HBO.out.2]
      unfold tgi
      rw [htg, upd_upd]
  · subst e
    go_wp2
    refine hF.cond (by omega) rfl (fun hh => by simp at hh) (fun hh => ?_)
    clear hh
    go_wp2
    refine hF.cond (by omega) rfl (fun hh => ?_) (fun hh => by simp at hh)
    clear hh
    go_wp2
    refine HNJ.out _ 2 (fun s hs h28 => ?_) (by have := HZZ.out; omega) (by have := HZZ.out; unfold kdn; rw [if_neg (by omega), if_pos (by omega)])
    simp only [fup_at]
    repeat rw [if_neg (by omega)]
  · subst e
    go_wp2
    refine hF.cond (by omega) rfl (fun hh => by simp at hh) (fun hh => ?_)
    clear hh
    go_wp2
    refine hF.cond (by omega) rfl (fun hh => by simp at hh) (fun hh => ?_)
    clear hh
    go_wp2
    refine HNJ.out _ 3 (fun s hs h28 => ?_) (by have := HZZ.out; omega) (by have := HZZ.out; unfold kdn; rw [if_neg (by omega), if_neg (by omega)])
    simp only [fup_at]
    repeat rw [if_neg (by omega)]
end Go.Proofs.YbulkexmzaGreat
