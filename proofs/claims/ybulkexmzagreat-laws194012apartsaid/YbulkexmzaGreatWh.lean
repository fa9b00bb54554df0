/-
  The law's check of one function (regions 81 to 120).
-/
import Derived.Test.YbulkexmzaGreatWg
namespace Go.Proofs.YbulkexmzaGreat
open Go.RowKit
attribute [local go_sem] fup_at
set_option maxHeartbeats 4000000 in
set_option maxRecDepth 100000 in
theorem c86 {F : (Nat → Value) → Act} (hF : Fr 559 F) {X : Ain} (hX : Aok X) {w0 w : World} {E : Lab → Nat} {B : Lab → Option Lb} {al want : ByteArray} {fv : Value} {i : Nat} {f : Nat → Value} {Q : Exit → Act → World → Prop} (hi : i < X.N)
    (hC : Chk w0 w E B X al want fv)
    (h13 : f 13 = .slice (some ⟨E (0, 3, 0, 0), 0, none⟩) X.N X.N) (h14 : f 14 = .slice (some ⟨E (0, 4, 0, 0), 0, none⟩) X.N X.N) (h15 : f 15 = .slice (some ⟨E (0, 5, 0, 0), 0, none⟩) X.N X.N) (h33 : f 33 = .int .i64 (i : Nat)) (h34 : f 34 = .pointer (some ⟨E (1, i, 0, 0), 0, none⟩)) (h35 : f 35 = .bool (X.pin.mt want i))
    (hQ : ∀ y w' E' B', (∀ s, s < 359 → s < 33 ∨ 49 < s → y s = f s) → Sg w0 w' E' B' → (∀ l : Lab, l.1 < 40 → E' l = E l) → (∀ l : Lab, l.1 < 40 → B' l = B l) → Q .normal (F y) w') :
    (((Ybaz.f3.body.bind (codeAt 86)).getD .skip)).wp Ybaz.prog Q (F f) w := by
  conv => arg 2; whnf
  have hget := hF.get
  have hmk := hF.up
  have HQ : Hid _ := hQ
  have HX : Hid (Aok X) := hX
  have HC : Hid (Chk w0 w E B X al want fv) := hC
  have hnm := hX.n_le hi
  have hNm := hX.N
  have hn1 := X.n_pos i
  obtain ⟨sv, hg4, hsv⟩ := hC.g4
  obtain ⟨tv, hg5, htv⟩ := hC.g5
  have k4 := hC.sg.val hg4 hi
  have k5 := hC.sg.val hg5 hi
  rw [hsv i hi] at k4
  rw [htv i hi] at k5
  have hm46 := run_mk mty46 (X.n i) (X.n i) (Nat.le_refl _) (by omega)
  clear hQ hX hC hg4 hg5 hsv htv
  refine wp_seq_hid (fun K HK => ?_)
  go_wp2
  refine HK.out _ _ ?_
  clear HK
  refine wp_seq_hid (fun K HK => ?_)
  go_wp2
  refine HK.out _ _ ?_
  clear HK k4 k5
  refine wp_seq_hid (fun K HK => ?_)
  go_wp2
  refine HK.out _ _ ?_
  clear HK
  refine wp_seq_hid (fun K HK => ?_)
  go_wp2
  refine HK.out _ _ ?_
  clear HK hm46
  have hS1 := HC.out.sg.makeV (.int .i64 0) (X.n i) 3 (40, 0, 0, 0)
  obtain ⟨E1, hE1⟩ : ∃ E1, E1 = lup E (40, 0, 0, 0) w.heap.size := ⟨_, rfl⟩
  obtain ⟨B1, hB1⟩ : ∃ B1, B1 = lup B (40, 0, 0, 0) (some (vals 3 (X.n i) (fun _ => .int .i64 0))) := ⟨_, rfl⟩
  have e40 : w.heap.size = E1 (40, 0, 0, 0) := by rw [hE1, lup_same]
  rw [← hE1, ← hB1] at hS1
  rw [e40]
  have HS1 : Hid (Sg w0 (w.alloc (.cells (madeCells #[.int .i64 0] (X.n i)) 3)) E1 B1) := hS1
  have HE1 : Hid (∀ l : Lab, l.1 < 40 → E1 l = E l) := fun l hl => by rw [hE1, lup_other _ _ (fun e => by subst e; simp at hl)]
  have HB1 : Hid (∀ l : Lab, l.1 < 40 → B1 l = B l) := fun l hl => by rw [hB1, lup_other _ _ (fun e => by subst e; simp at hl)]
  have b40 : B1 (40, 0, 0, 0) = some (arr (X.n i) (fun _ => 0)) := by rw [hB1, lup_same]; rfl
  clear hS1 hE1 hB1 e40
  generalize w.alloc (.cells (madeCells #[.int .i64 0] (X.n i)) 3) = w1 at HS1 ⊢
  have k0 : w1.cell? ⟨E1 (40, 0, 0, 0), 0, none⟩ = some (.int .i64 0) := HS1.out.arr b40 hn1
  have kf := HS1.out.frz b40 0
  have HS2 : Hid (Sg w0 (w1.setCell ⟨E1 (40, 0, 0, 0), 0, none⟩ (.int .i64 1)) E1 (lup B1 (40, 0, 0, 0) (some (arr (X.n i) (upd (fun _ => 0) 0 1))))) := HS1.out.setArr b40 0 1
  have hnz : (0 : Int) < (X.n i : Int) := by omega
  refine wp_seq_hid (fun K HK => ?_)
  go_wp2
  refine HK.out _ _ ?_
  clear HK k0 kf
  generalize w1.setCell ⟨E1 (40, 0, 0, 0), 0, none⟩ (.int .i64 1) = w2 at HS2 ⊢
  have hC2 : Chk w0 w2 E1 (lup B1 (40, 0, 0, 0) (some (arr (X.n i) (upd (fun _ => 0) 0 1)))) X al want fv := HC.out.keep HS2.out HE1.out (fun l hl => by rw [lup_other _ _ (fun e => by subst e; simp at hl)]; exact HB1.out l hl)
  obtain ⟨B2, hB2⟩ : ∃ B2, B2 = lup B1 (40, 0, 0, 0) (some (arr (X.n i) (upd (fun _ => 0) 0 1))) := ⟨_, rfl⟩
  have b240 : B2 (40, 0, 0, 0) = some (arr (X.n i) (upd (fun _ => 0) 0 1)) := by rw [hB2, lup_same]
  have HBB : Hid (∀ l : Lab, l.1 < 40 → B2 l = B l) := fun l hl => by
    show _
    rw [hB2, lup_other _ _ (fun e => by subst e; simp at hl)]; exact HB1.out l hl
  rw [← hB2] at hC2 HS2
  clear hB2 HB1 HS1 b40
  obtain ⟨T, hs4, hT⟩ := (hC2.sn i hi).s4
  obtain ⟨Ds, hs3, hsn⟩ := (hC2.sn i hi).s3
  have q3 : E1 (3, i, 0, 0) = E (3, i, 0, 0) := HE1.out _ (by simp)
  have q4 : E1 (4, i, 0, 0) = E (4, i, 0, 0) := HE1.out _ (by simp)
  refine wp_seq_hid (fun K HK => ?_)
  refine c91 hF (d := X.fd i) (i := i) (HX.out.fdk hi) HS2.out hs4 hT b240 (fun k hk => ?_) (by rw [q4]; simp [fup_at]; rfl) (by simp [fup_at]; rfl) (by simp [fup_at]; rfl) ?_
  · by_cases e : k = 0
    · subst e; rw [upd_same]; rfl
    · rw [upd_other _ _ e]; unfold pd; rw [if_neg e]; rfl
  intro y3 w3 B3 Z3 hy3 hS3 hB3 hb340 hZ3
  refine HK.out _ _ ?_
  clear HK
  have g35 : y3 35 = .bool (X.pin.mt want i) := (hy3 35 (by omega) (by omega)).trans (by simp [fup_at, h35])
  have g36 : y3 36 = .slice (some ⟨E (3, i, 0, 0), 0, none⟩) (X.n i) (X.n i) := (hy3 36 (by omega) (by omega)).trans (by simp [fup_at])
  have g37 : y3 37 = .slice (some ⟨E (4, i, 0, 0), 0, none⟩) (X.n i) (X.n i) := (hy3 37 (by omega) (by omega)).trans (by simp [fup_at])
  have g38 : y3 38 = .int .i64 (X.n i : Nat) := (hy3 38 (by omega) (by omega)).trans (by simp [fup_at])
  have g39 : y3 39 = .slice (some ⟨E1 (40, 0, 0, 0), 0, none⟩) (X.n i) (X.n i) := (hy3 39 (by omega) (by omega)).trans (by simp [fup_at])
  have HY3 : Hid (∀ s, s < 359 → s < 36 ∨ 49 < s → y3 s = f s) := fun s h1 h2 => by
    rw [hy3 s (by omega) (by omega)]
    simp only [fup_at]; repeat rw [if_neg (by omega)]
  have HS3 : Hid (Sg w0 w3 E1 B3) := hS3
  have HB3 : Hid (∀ l : Lab, l ≠ (40, 0, 0, 0) → B3 l = B2 l) := hB3
  have HB340 : Hid (B3 (40, 0, 0, 0) = some (arr (X.fd i).n Z3)) := hb340
  have HZ3 : Hid (∀ k, k < (X.fd i).n → Z3 k = (pd (X.fd i).tg (X.fd i).n k : Nat)) := hZ3
  have HC2 : Hid (Chk w0 w2 E1 B2 X al want fv) := hC2
  have HT : Hid (B2 (4, i, 0, 0) = some (arr (X.fd i).n T) ∧ ∀ j, j < (X.fd i).n → T j = tgi (X.fd i) j) := ⟨hs4, hT⟩
  have HDs : Hid (B2 (3, i, 0, 0) = some (vals 45 ((X.fd i).n * 6) Ds) ∧ ∀ j, j < (X.fd i).n → Snb E1 B2 i (X.fd i) Ds j) := ⟨hs3, hsn⟩
  clear hy3 hS3 hB3 hb340 hZ3 hC2 hs4 hT hs3 hsn
  refine wp_seq_hid (fun K HK => ?_)
  go_wp2
  refine HK.out _ _ ?_
  clear HK
  refine wp_seq_hid (fun K HK => ?_)
  go_wp2
  refine HK.out _ _ ?_
  clear HK
  have hC3 : Chk w0 w3 E1 B3 X al want fv := HC2.out.keep HS3.out (fun _ _ => rfl) (fun l hl => HB3.out l (fun e => by subst e; simp at hl))
  obtain ⟨Ds', hs3, hsn⟩ := (hC3.sn i hi).s3
  obtain ⟨T', hs4, hT⟩ := (hC3.sn i hi).s4
  refine wp_seq_hid (fun K HK => ?_)
  refine c98 hF (d := X.fd i) (i := i) (mt := X.pin.mt want i) (AB := X.pin.ab want i) (HX.out.fdk hi) rfl HS3.out hs3 hsn hs4 hT HB340.out HZ3.out (by simp [fup_at, g35]) (by rw [q3]; simp [fup_at, g36]; rfl) (by rw [q4]; simp [fup_at, g37]; rfl) (by simp [fup_at, g38]; rfl) (by simp [fup_at, g39]; rfl) (by simp [fup_at]) (by simp [fup_at]) (by simp [fup_at]) ?_
  intro y4 w4 E4 B4 lv ov nv iv hy4 hS4 hE4 hB4 z41 z42 z43 hL4
  refine HK.out _ _ ?_
  clear HK
  have hC4 : Chk w0 w4 E4 B4 X al want fv := hC3.keep hS4 (fun l hl => hE4 l (by omega)) (fun l hl => hB4 l (by omega))
  have HY4 : Hid (∀ s, s < 359 → s < 36 ∨ 49 < s → y4 s = f s) := fun s h1 h2 => by
    rw [hy4 s (by omega) (by omega)]
    simp only [fup_at]; repeat rw [if_neg (by omega)]
    exact HY3.out s h1 h2
  have ee : ∀ l : Lab, l.1 < 40 → E4 l = E l := fun l hl => by rw [hE4 l (by omega)]; exact HE1.out l hl
  have be : ∀ l : Lab, l.1 < 40 → B4 l = B l := fun l hl => by rw [hB4 l (by omega), HB3.out l (fun e => by subst e; simp at hl)]; exact HBB.out l hl
  have u36 : y4 36 = .slice (some ⟨E4 (3, i, 0, 0), 0, none⟩) (X.n i) (X.n i) := by
    rw [hy4 36 (by omega) (by omega), ee _ (by simp)]; simp [fup_at, g36]
  have u34 : y4 34 = .pointer (some ⟨E4 (1, i, 0, 0), 0, none⟩) := by rw [ee _ (by simp), HY4.out 34 (by omega) (by omega)]; exact h34
  have u33 : y4 33 = .int .i64 (i : Nat) := (HY4.out 33 (by omega) (by omega)).trans h33
  have u13 : y4 13 = .slice (some ⟨E4 (0, 3, 0, 0), 0, none⟩) X.N X.N := by rw [ee _ (by simp), HY4.out 13 (by omega) (by omega)]; exact h13
  -- R109
  obtain ⟨bl, cap, lb, hfn, hbl, hblb, hlbn, hlbp⟩ := (hC4.dn i hi).fn
  obtain ⟨nf, Df, hnf, hfb, hfr⟩ := hfn.mem
  have k11 : w4.cell? ⟨E4 (1, i, 0, 0), 11, none⟩ = some (.slice (some ⟨E4 bl, 0, none⟩) (gm (X.pin.ab want i) (X.fd i).n) cap) := by
    rw [hS4.val hfb hnf, hfr.2.2.2.2.2]
  obtain ⟨c41, hl41⟩ := hL4.l41
  obtain ⟨la, lc, hlv, _, _⟩ := hl41.form
  obtain ⟨m, hm⟩ : ∃ m, m = gm (X.pin.ab want i) (X.fd i).n := ⟨_, rfl⟩
  rw [← hm] at k11 hlv
  have HC4 : Hid (Chk w0 w4 E4 B4 X al want fv) := hC4
  have HL4 : Hid (Lds E4 B4 i (X.fd i) (X.pin.ab want i) (X.fd i).n lv ov nv iv) := hL4
  have HEE : Hid (∀ l : Lab, l.1 < 40 → E4 l = E l) := ee
  have HBE : Hid (∀ l : Lab, l.1 < 40 → B4 l = B l) := be
  have HZ4 : Hid (y4 41 = lv ∧ y4 42 = ov ∧ y4 43 = nv) := ⟨z41, z42, z43⟩
  have z41' : y4 41 = .slice la m lc := z41.trans hlv
  clear hC4 hL4 ee be hfn hfb hfr hblb hlbp hl41 hS4 hE4 hB4 hy4 hbl hlbn z41 z42 z43 hm hC3 hs3 hsn hs4 hT g35 g36 g37 g38 g39
  refine wp_seq_hid (fun K HK => ?_)
  go_wp2
  refine hF.cond (by omega) rfl (fun hh => by simp at hh) (fun hh => ?_)
  clear hh
  go_wp2
  refine HK.out _ _ ?_
  clear HK k11
  refine c111 hF HX.out (i := i) hi rfl HC4.out HL4.out ?_ ?_ ?_ ?_ ?_ ?_ ?_ ?_
  · simp only [fup_at]; repeat rw [if_neg (by omega)]
    exact u13
  · simp only [fup_at]; repeat rw [if_neg (by omega)]
    exact u33
  · simp only [fup_at]; repeat rw [if_neg (by omega)]
    exact u34
  · simp only [fup_at]; repeat rw [if_neg (by omega)]
    exact u36
  · simp only [fup_at]; repeat rw [if_neg (by omega)]
    exact HZ4.out.1
  · simp only [fup_at]; repeat rw [if_neg (by omega)]
    exact HZ4.out.2.1
  · simp only [fup_at]; repeat rw [if_neg (by omega)]
    exact HZ4.out.2.2
  · intro y6 w6 E6 B6 hy6 hS6 hE6 hB6
    refine HQ.out y6 w6 E6 B6 (fun s h1 h2 => ?_) hS6 (fun l hl => (hE6 l (by omega)).trans (HEE.out l hl)) (fun l hl => (hB6 l (by omega)).trans (HBE.out l hl))
    rw [hy6 s (by omega) (by omega)]
    simp only [fup_at]; repeat rw [if_neg (by omega)]
    exact HY4.out s h1 (by omega)
end Go.Proofs.YbulkexmzaGreat
