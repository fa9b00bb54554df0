/-
  newDominance (38): from region 75 on (idom settled).
-/
import Derived.Test.YbulkexmzaGreatTy
namespace Go.Proofs.YbulkexmzaGreat
open Go.RowKit
attribute [local go_sem] fup_at

theorem Dm.drew {w0 w : World} {E : Nat → Nat} {B : Nat → Lb} {n m : Nat} {pst : List Nat} {D : Nat → Value} (h : Dm w0 w E B n m pst D) : Dm w0 w.drew E B n m pst D := ⟨h.st.drew, h.b1, h.b3, h.b12, h.b14, h.b18, h.b22⟩

set_option maxHeartbeats 4000000 in
set_option maxRecDepth 100000 in
theorem t75 {F : (Nat → Value) → Act} (hF : Fr 577 F) {w0 w : World} {E : Nat → Nat} {B : Nat → Lb} {n m : Nat} {pst : List Nat} {D f : Nat → Value} {R : Ending → World → Prop}
    (hn : n ≤ 100000) (hm : m ≤ 100001) (hnd : pst.Nodup) (hpl : ∀ z ∈ pst, z < n) (hD : Dm w0 w E B n m pst D) (hf : Df E n m f)
    (hR : ∀ w', DomOk w0 w' n (E 12) → R (.returned (.pointer (some ⟨E 12, 0, none⟩))) w') :
    ((Ybaz.f38.body.bind (codeAt 75)).getD .skip).wp Ybaz.prog (bodyPost Ybaz.prog Ybaz.f38 R) (F f) w := by
  conv => arg 2; whnf
  have hget := hF.get
  have hmk := hF.up
  obtain ⟨h7, h8, h9, h11, h13, h23, h24, h26⟩ := hf
  have HD : Hid (Dm w0 w E B n m pst D) := hD
  have HR : Hid (∀ w', DomOk w0 w' n (E 12) → R (.returned (.pointer (some ⟨E 12, 0, none⟩))) w') := hR
  clear hD hR
  refine wp_seq_hid (fun K HK => ?_)
  refine wp_seq_hid (fun K2 HK2 => ?_)
  go_wp2
  refine HK2.out _ _ ?_
  clear HK2 K2
  refine wp_block ?_
  refine wp_loop_ghost_k (fun g a w => ∃ f, a = F f ∧ ∃ j, (g + j = m ∨ m ≤ j ∧ g = 0) ∧ Dm w0 w E B n m pst D ∧ Df E n m f ∧ f 40 = .int .i64 (j : Nat)) (m - 1) ⟨_, rfl, 1, by omega, HD.out, ⟨by simp [fup_at, h7], by simp [fup_at, h8], by simp [fup_at, h9], by simp [fup_at, h11], by simp [fup_at, h13], by simp [fup_at, h23], by simp [fup_at, h24], by simp [fup_at, h26]⟩, by simp [fup_at]⟩ ?_
  clear HD h7 h8 h9 h11 h13 h23 h24 h26 f w
  rintro g _ w ⟨f, rfl, j, hgj, hD, ⟨h7, h8, h9, h11, h13, h23, h24, h26⟩, h40⟩ J K1 hJ hK1
  have HJ : Hid _ := hJ
  have HK1 : Hid (∀ a' w', Handed J g a' w' → K1 a' w') := hK1
  have HD : Hid (Dm w0 w E B n m pst D) := hD
  clear hJ hK1 hD
  go_wp2
  refine hF.cond (by omega) rfl (fun h0 => ?_) (fun h0 => ?_)
  · have hj : j < m := by simpa using h0
    clear h0
    have hjz : (j : Int) < (m : Int) := by omega
    obtain ⟨z, kz, hz0, hz1⟩ := HD.out.st.intAt (k := 22) (by omega) HD.out.b22 (i := j) hj
    obtain ⟨d, rfl⟩ : ∃ d : Nat, z = d := ⟨z.toNat, by have : (0 : Int) ≤ z := hz0; omega⟩
    have hdm : d < m := by have : (d : Int) < (m : Int) := hz1; omega
    have hdz : (d : Int) < (m : Int) := hz1
    obtain ⟨y, ky, _, _⟩ := HD.out.st.intAt (k := 22) (by omega) HD.out.b22 (i := d) hdm
    obtain ⟨s, ks, _, _⟩ := HD.out.st.intAt (k := 18) (by omega) HD.out.b18 (i := j) hj
    have kb := HD.out.st.box (k := 14) (by omega) HD.out.b14
    have kf := HD.out.st.frz 22 (by omega) j
    rename_i y0 y1 _ _
    clear hz0 hz1
    go_wp2
    go_still (by kernel_rfl)
    go_wp2
    refine hF.cond (by omega) rfl (fun h0 => ?_) (fun h0 => ?_)
    · clear h0
      go_wp2
      have hD2 : Dm w0 (w.setCell ⟨E 22, j, none⟩ (.int .i64 y)).drew E B n m pst D := ⟨(HD.out.st.put 22 (by omega) (by rw [HD.out.b22]; exact ⟨y, rfl, y0, y1⟩)).drew, HD.out.b1, HD.out.b3, HD.out.b12, HD.out.b14, HD.out.b18, HD.out.b22⟩
      exact HK1.out _ _ ⟨g - 1, by omega, HJ.out _ _ _ ⟨_, rfl, j + 1, by omega, hD2, ⟨by simp [fup_at, h7], by simp [fup_at, h8], by simp [fup_at, h9], by simp [fup_at, h11], by simp [fup_at, h13], by simp [fup_at, h23], by simp [fup_at, h24], by simp [fup_at, h26]⟩, by simp [fup_at]⟩⟩
    · clear h0
      go_wp2
      exact HK1.out _ _ ⟨g - 1, by omega, HJ.out _ _ _ ⟨_, rfl, j + 1, by omega, HD.out.drew, ⟨by simp [fup_at, h7], by simp [fup_at, h8], by simp [fup_at, h9], by simp [fup_at, h11], by simp [fup_at, h13], by simp [fup_at, h23], by simp [fup_at, h24], by simp [fup_at, h26]⟩, by simp [fup_at]⟩⟩
  · clear h0
    go_wp2
    refine HK.out _ _ ?_
    clear HK HK1 HJ
    exact t80 hF hn hm hnd hpl HD.out ⟨by simp [fup_at, h7], by simp [fup_at, h8], by simp [fup_at, h9], by simp [fup_at, h11], by simp [fup_at, h13], by simp [fup_at, h23], by simp [fup_at, h24], by simp [fup_at, h26]⟩ HR.out
end Go.Proofs.YbulkexmzaGreat
