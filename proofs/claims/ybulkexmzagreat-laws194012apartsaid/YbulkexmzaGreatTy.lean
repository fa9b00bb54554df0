/-
  newDominance (38): from region 80 on (d.idom), and from region 75 on (idom settled).
-/
import Derived.Test.YbulkexmzaGreatTx
namespace Go.Proofs.YbulkexmzaGreat
open Go.RowKit
attribute [local go_sem] fup_at

/-- What the rest of newDominance reads: vertex (box 1, row 6), post (3, 8), d (12), semi (14, 18), idom (22). -/
structure Dm (w0 w : World) (E : Nat → Nat) (B : Nat → Lb) (n m : Nat) (pst : List Nat) (D : Nat → Value) : Prop where
  st : St w0 w 25 E B
  b1 : ∃ v cap, B 1 = bx 46 v ∧ Sl E B 6 3 1 m cap (qv n) v
  b3 : ∃ v cap, B 3 = bx 46 v ∧ Sl E B 8 3 1 pst.length cap (ql pst) v
  b12 : B 12 = vals 130 21 D
  b14 : B 14 = bx 46 (.slice (some ⟨E 18, 0, none⟩) m m)
  b18 : B 18 = ints m (fun _ => 0) (fun _ => (m : Int))
  b22 : B 22 = ints m (fun _ => 0) (fun _ => (m : Int))
/-- The slots. -/
structure Df (E : Nat → Nat) (n m : Nat) (f : Nat → Value) : Prop where
  h7 : f 7 = .int .i64 (n : Nat)
  h8 : f 8 = .int .i64 (n : Nat)
  h9 : f 9 = .pointer (some ⟨E 12, 0, none⟩)
  h11 : f 11 = .pointer (some ⟨E 1, 0, none⟩)
  h13 : f 13 = .pointer (some ⟨E 3, 0, none⟩)
  h23 : f 23 = .int .i64 (m : Nat)
  h24 : f 24 = .pointer (some ⟨E 14, 0, none⟩)
  h26 : f 26 = .slice (some ⟨E 22, 0, none⟩) m m

/-- .. and d.idom in register 25. -/
structure Di (w0 w : World) (E : Nat → Nat) (B : Nat → Lb) (n m : Nat) (pst : List Nat) (D : Nat → Value) : Prop where
  st : St w0 w 26 E B
  b1 : ∃ v cap, B 1 = bx 46 v ∧ Sl E B 6 3 1 m cap (qv n) v
  b3 : ∃ v cap, B 3 = bx 46 v ∧ Sl E B 8 3 1 pst.length cap (ql pst) v
  b12 : B 12 = vals 130 21 D
  b22 : B 22 = ints m (fun _ => 0) (fun _ => (m : Int))
  b25 : B 25 = ints (n + 1) (fun _ => 0) (fun _ => (n : Int) + 1)
  d1 : D 1 = .slice (some ⟨E 25, 0, none⟩) (n + 1) (n + 1)

set_option maxHeartbeats 4000000 in
set_option maxRecDepth 100000 in
theorem t80 {F : (Nat → Value) → Act} (hF : Fr 577 F) {w0 w : World} {E : Nat → Nat} {B : Nat → Lb} {n m : Nat} {pst : List Nat} {D f : Nat → Value} {R : Ending → World → Prop}
    (hn : n ≤ 100000) (hm : m ≤ 100001) (hnd : pst.Nodup) (hpl : ∀ z ∈ pst, z < n) (hD : Dm w0 w E B n m pst D) (hf : Df E n m f)
    (hR : ∀ w', DomOk w0 w' n (E 12) → R (.returned (.pointer (some ⟨E 12, 0, none⟩))) w') :
    ((Ybaz.f38.body.bind (codeAt 80)).getD .skip).wp Ybaz.prog (bodyPost Ybaz.prog Ybaz.f38 R) (F f) w := by
  conv => arg 2; whnf
  have hget := hF.get
  have hmk := hF.up
  obtain ⟨h7, h8, h9, h11, h13, h23, h24, h26⟩ := hf
  have hmake := run_mk mty46 (n + 1) (n + 1) (Nat.le_refl _) (by omega)
  rw [show ((n + 1 : Nat) : Int) = (n : Int) + 1 by omega] at hmake
  have k1 := (hD.st.alloc (.cells (madeCells #[.int .i64 0] (n + 1)) 3)).valAt (k := 12) (by omega) hD.b12 (i := 1) (by omega)
  have k1f := (hD.st.alloc (.cells (madeCells #[.int .i64 0] (n + 1)) 3)).frz 12 (by omega) 1
  have HD : Hid (Dm w0 w E B n m pst D) := hD
  have HR : Hid (∀ w', DomOk w0 w' n (E 12) → R (.returned (.pointer (some ⟨E 12, 0, none⟩))) w') := hR
  clear hD hR
  refine wp_seq_hid (fun K HK => ?_)
  go_wp2
  refine HK.out _ _ ?_
  clear HK K k1 k1f hmake
  have hs := (HD.out.st.make (.int .i64 0) (n + 1) 3 25 26 (.inr ⟨rfl, rfl⟩)).setVal (k := 12) (by omega) (by rw [upd_other _ _ (by omega)]; exact HD.out.b12) 1 (.slice (some ⟨w.heap.size, 0, none⟩) (n + 1) (n + 1))
  rw [upd_other E _ (show 12 ≠ 25 by omega)] at hs
  generalize (w.alloc (.cells (madeCells #[.int .i64 0] (n + 1)) 3)).setCell ⟨E 12, 1, none⟩ (.slice (some ⟨w.heap.size, 0, none⟩) (n + 1) (n + 1)) = w1 at hs ⊢
  obtain ⟨E1, hE1⟩ : ∃ E1, E1 = upd E 25 w.heap.size := ⟨_, rfl⟩
  rw [← hE1] at hs
  have e1 : E1 1 = E 1 := by rw [hE1]; rfl
  have e3 : E1 3 = E 3 := by rw [hE1]; rfl
  have e12 : E1 12 = E 12 := by rw [hE1]; rfl
  have e22 : E1 22 = E 22 := by rw [hE1]; rfl
  have e25 : E1 25 = w.heap.size := by rw [hE1]; rfl
  have hDi : ∃ B1 D1, Di w0 w1 E1 B1 n m pst D1 := by
    refine ⟨_, _, (hs.wkn 25 (ints (n + 1) (fun _ => 0) (fun _ => (n : Int) + 1)) rfl rfl (fun i v _ hv => ⟨0, hv, by show (0 : Int) ≤ 0; omega, by show (0 : Int) < (n : Int) + 1; omega⟩)), ?_, ?_, rfl, HD.out.b22, rfl, by rw [hE1]; rfl⟩
    · obtain ⟨v, c, h1, h2⟩ := HD.out.b1
      exact ⟨v, c, h1, h2.congr (by rw [hE1]; rfl) rfl⟩
    · obtain ⟨v, c, h1, h2⟩ := HD.out.b3
      exact ⟨v, c, h1, h2.congr (by rw [hE1]; rfl) rfl⟩
  have HR1 : Hid (∀ w', DomOk w0 w' n (E1 12) → R (.returned (.pointer (some ⟨E1 12, 0, none⟩))) w') := by rw [e12]; exact HR.out
  rw [← e1] at h11
  rw [← e3] at h13
  rw [← e12] at h9
  rw [← e22] at h26
  clear hs HR HD e1 e3 e12 e22 e25 hE1 h24
  obtain ⟨B1, D1, hDi⟩ := hDi
  have k1 := hDi.st.valAt (k := 12) (by omega) hDi.b12 (i := 1) (by omega)
  rw [hDi.d1] at k1
  obtain ⟨u, ku, _⟩ := hDi.st.read 25 (by omega) (i := n) (by rw [hDi.b25]; show n < n + 1; omega)
  have kf := hDi.st.frz 25 (by omega) n
  have HDI : Hid (Di w0 w1 E1 B1 n m pst D1) := hDi
  clear hDi
  refine wp_seq_hid (fun K HK => ?_)
  go_wp2
  refine HK.out _ _ ?_
  clear HK K k1 kf ku
  have hDi : Di w0 (w1.setCell ⟨E1 25, n, none⟩ (.int .i64 (n : Nat))) E1 B1 n m pst D1 := ⟨HDI.out.st.put 25 (by omega) (by rw [HDI.out.b25]; exact ⟨n, rfl, by show (0 : Int) ≤ n; omega, by show (n : Int) < (n : Int) + 1; omega⟩), HDI.out.b1, HDI.out.b3, HDI.out.b12, HDI.out.b22, HDI.out.b25, HDI.out.d1⟩
  clear HDI
  have HDI : Hid (Di w0 (w1.setCell ⟨E1 25, n, none⟩ (.int .i64 (n : Nat))) E1 B1 n m pst D1) := hDi
  clear hDi
  generalize w1.setCell ⟨E1 25, n, none⟩ (.int .i64 (n : Nat)) = w2 at HDI ⊢
  refine wp_seq_hid (fun K HK => ?_)
  refine wp_seq_hid (fun K2 HK2 => ?_)
  go_wp2
  refine HK2.out _ _ ?_
  clear HK2 K2
  refine wp_block ?_
  refine wp_loop_ghost_k (fun g a w => ∃ f, a = F f ∧ ∃ j, (g + j = m ∨ m ≤ j ∧ g = 0) ∧ 1 ≤ j ∧ Di w0 w E1 B1 n m pst D1 ∧ f 7 = .int .i64 (n : Nat) ∧ f 8 = .int .i64 (n : Nat) ∧ f 9 = .pointer (some ⟨E1 12, 0, none⟩) ∧ f 11 = .pointer (some ⟨E1 1, 0, none⟩) ∧ f 13 = .pointer (some ⟨E1 3, 0, none⟩) ∧ f 23 = .int .i64 (m : Nat) ∧ f 26 = .slice (some ⟨E1 22, 0, none⟩) m m ∧ f 41 = .int .i64 (j : Nat)) (m - 1) ⟨_, rfl, 1, by omega, by omega, HDI.out, by simp [fup_at, h7], by simp [fup_at, h8], by simp [fup_at, h9], by simp [fup_at, h11], by simp [fup_at, h13], by simp [fup_at, h23], by simp [fup_at, h26], by simp [fup_at]⟩ ?_
  clear HDI h7 h8 h9 h11 h13 h23 h26 f w w1 w2
  rintro g _ w ⟨f, rfl, j, hgj, hj1, hDi, h7, h8, h9, h11, h13, h23, h26, h41⟩ J K1 hJ hK1
  have HJ : Hid _ := hJ
  have HK1 : Hid (∀ a' w', Handed J g a' w' → K1 a' w') := hK1
  have HDI : Hid (Di w0 w E1 B1 n m pst D1) := hDi
  clear hJ hK1 hDi
  go_wp2
  refine hF.cond (by omega) rfl (fun h0 => ?_) (fun h0 => ?_)
  · have hj : j < m := by simpa using h0
    clear h0
    have hjz : (j : Int) < (m : Int) := by omega
    obtain ⟨v, cv, hb1, hsl⟩ := HDI.out.b1
    obtain ⟨va, vc, rfl, hva⟩ := hsl.form
    obtain rfl := hva (by omega)
    have kv := HDI.out.st.box (k := 1) (by omega) hb1
    obtain ⟨u, ku, ⟨b, rfl, _, hbn⟩, _⟩ := hsl.cell HDI.out.st (by omega) (i := j) (by omega)
    have hbn := hbn (by omega)
    obtain ⟨z, kz, hz0, hz1⟩ := HDI.out.st.intAt (k := 22) (by omega) HDI.out.b22 (i := j) hj
    obtain ⟨d, rfl⟩ : ∃ d : Nat, z = d := ⟨z.toNat, by have : (0 : Int) ≤ z := hz0; omega⟩
    have hdm : d < m := by have : (d : Int) < (m : Int) := hz1; omega
    have hdz : (d : Int) < (m : Int) := hz1
    obtain ⟨u', ku', ⟨e, rfl, he0, hen⟩, _⟩ := hsl.cell HDI.out.st (by omega) (i := d) (by omega)
    have hen : e ≤ n := by
      by_cases e0 : d = 0
      · exact Nat.le_of_eq (he0 e0)
      · exact Nat.le_of_lt (hen (by omega))
    have k1 := HDI.out.st.valAt (k := 12) (by omega) HDI.out.b12 (i := 1) (by omega)
    rw [HDI.out.d1] at k1
    obtain ⟨u2, ku2, _⟩ := HDI.out.st.read 25 (by omega) (i := b) (by rw [HDI.out.b25]; show b < n + 1; omega)
    have kf := HDI.out.st.frz 25 (by omega) b
    have hbz : (b : Int) < (n : Int) + 1 := by omega
    clear hsl hz0 hz1 he0 hb1 hva
    go_wp2
    go_still_tail 15, (by kernel_rfl)
    go_wp2
    have hDi : Di w0 (w.setCell ⟨E1 25, b, none⟩ (.int .i64 (e : Nat))).drew E1 B1 n m pst D1 := ⟨(HDI.out.st.put 25 (by omega) (by rw [HDI.out.b25]; exact ⟨e, rfl, by show (0 : Int) ≤ e; omega, by show (e : Int) < (n : Int) + 1; omega⟩)).drew, HDI.out.b1, HDI.out.b3, HDI.out.b12, HDI.out.b22, HDI.out.b25, HDI.out.d1⟩
    exact HK1.out _ _ ⟨g - 1, by omega, HJ.out _ _ _ ⟨_, rfl, j + 1, by omega, by omega, hDi, by simp [fup_at, h7], by simp [fup_at, h8], by simp [fup_at, h9], by simp [fup_at, h11], by simp [fup_at, h13], by simp [fup_at, h23], by simp [fup_at, h26], by simp [fup_at]⟩⟩
  · clear h0
    go_wp2
    refine HK.out _ _ ?_
    clear HK HK1 HJ
    have hs := HDI.out.st.perm 4 (fun k => match k with
      | 0 => 12
      | 1 => 3
      | 2 => 8
      | _ => 25) (fun k hk => by match k, hk with
      | 0, _ => decide
      | 1, _ => decide
      | 2, _ => decide
      | 3, _ => decide) (fun i hi k hk => by match i, hi, k, hk with
      | 0, _, 0, _ => simp
      | 0, _, 1, _ => simp
      | 0, _, 2, _ => simp
      | 0, _, 3, _ => simp
      | 1, _, 0, _ => simp
      | 1, _, 1, _ => simp
      | 1, _, 2, _ => simp
      | 1, _, 3, _ => simp
      | 2, _, 0, _ => simp
      | 2, _, 1, _ => simp
      | 2, _, 2, _ => simp
      | 2, _, 3, _ => simp
      | 3, _, 0, _ => simp
      | 3, _, 1, _ => simp
      | 3, _, 2, _ => simp
      | 3, _, 3, _ => simp)
    obtain ⟨v, c, h1, h2⟩ := HDI.out.b3
    exact t86 hF (pv := v) (D := D1) hn hnd hpl hs HDI.out.b12 h1 ⟨c, h2⟩ HDI.out.b25 HDI.out.d1 (by simp [fup_at, h7]) (by simp [fup_at, h8]) (by simp [fup_at, h9]) (by simp [fup_at, h13]) HR1.out
end Go.Proofs.YbulkexmzaGreat
