/-
  newDominance (38): from region 10 on (the searches), the first two loops.
-/
import Derived.Test.YbulkexmzaGreatUl
namespace Go.Proofs.YbulkexmzaGreat
open Go.RowKit
attribute [local go_sem] fup_at

set_option maxHeartbeats 4000000 in
set_option maxRecDepth 100000 in
theorem t17 {F : (Nat → Value) → Act} (hF : Fr 577 F) {w0 w : World} {E : Nat → Nat} {B : Nat → Lb} {n m L0 pb qb fb : Nat} {p0 q0 : Nat → Nat} {nu : Nat → Int} {pst : List Nat} {D f : Nat → Value} {bk : Nat → Nat} {sc : Nat → Option Nat} {R : Ending → World → Prop}
    (hC : Cfg w0 fb n bk sc) (hPr : Pr w0 n L0 pb qb p0 q0) (hL : L0 ≤ 100000000) (hn : n ≤ 100000) (hS : Sx w0 w E B n m nu pst D fb) (hf : Dx E n L0 pb qb f)
    (hR : ∀ w', DomOk w0 w' n (E 12) → R (.returned (.pointer (some ⟨E 12, 0, none⟩))) w') :
    ((Ybaz.f38.body.bind (codeAt 17)).getD .skip).wp Ybaz.prog (bodyPost Ybaz.prog Ybaz.f38 R) (F f) w := by
  conv => arg 2; whnf
  have hget := hF.get
  have hmk := hF.up
  have HR : Hid (∀ w', DomOk w0 w' n (E 12) → R (.returned (.pointer (some ⟨E 12, 0, none⟩))) w') := hR
  have HS : Hid (Sx w0 w E B n m nu pst D fb) := hS
  have HF : Hid (Dx E n L0 pb qb f) := hf
  have h7 := hf.h7
  clear hR hS hf
  refine wp_seq_hid (fun K HK => ?_)
  refine wp_seq_hid (fun K2 HK2 => ?_)
  go_wp2
  refine HK2.out _ _ ?_
  clear HK2 K2 h7
  have hf := HF.out
  refine wp_block ?_
  refine wp_loop_ghost_k (fun g a w => ∃ f, a = F f ∧ ∃ E' B' m' nu' pst' i, g + i = n ∧ E' 12 = E 12 ∧ Sx w0 w E' B' n m' nu' pst' D fb ∧  Dx E' n L0 pb qb f ∧ f 90 = .int .i64 (n : Nat) ∧ f 91 = .int .i64 (i : Nat)) n ⟨_, rfl, E, B, m, nu, pst, 0, rfl, rfl, HS.out,  ⟨by simp [fup_at, hf.h1], by simp [fup_at, hf.h2], by simp [fup_at, hf.h7], by simp [fup_at, hf.h8], by simp [fup_at, hf.h9], by simp [fup_at, hf.h10], by simp [fup_at, hf.h11], by simp [fup_at, hf.h12], by simp [fup_at, hf.h13], by simp [fup_at, hf.h16]⟩, by simp [fup_at], by simp [fup_at]⟩ ?_
  clear HS HF hf f
  rintro g _ w2 ⟨f, rfl, E2, B2, m2, nu2, pst2, i, hg, hE2, hS,  hf, hns, his⟩ J K1 hJ hK1
  have HJ : Hid _ := hJ
  have HK1 : Hid (∀ a' w', Handed J g a' w' → K1 a' w') := hK1
  have HS : Hid (Sx w0 w2 E2 B2 n m2 nu2 pst2 D fb) := hS
  have HF : Hid (Dx E2 n L0 pb qb f) := hf
  have HE2 : Hid (E2 12 = E 12) := hE2
  clear hJ hK1 hS hE2 hf
  refine wp_seq_hid (fun Ka HKa => ?_)
  go_wp2
  refine HKa.out _ _ ?_
  clear HKa Ka
  refine wp_seq_hid (fun Kb HKb => ?_)
  refine hF.cond (by omega) rfl (fun h0 => ?_) (fun h0 => ?_)
  · have hi : i < n := by simpa using h0
    have hiz : (i : Int) < (n : Int) := by omega
    clear h0
    go_wp2
    refine HKb.out _ _ ?_
    clear HKb
    refine wp_seq_hid (fun K2 HK2 => ?_)
    refine wp_block ?_
    have k0 := HS.out.ds.st.box (k := 0) (by omega) HS.out.ds.b0
    have k5 := HS.out.ds.st.arr (k := 5) (by omega) HS.out.ds.b5 hi
    have ka := old_cell HS.out.ds.st.since (hPr.pc i (by omega))
    have kb := old_cell HS.out.ds.st.since (hPr.pc (i + 1) (by omega))
    have h1 := HF.out.h1
    have h10 := HF.out.h10
    have h16 := HF.out.h16
    have hwr : IntKind.i64.wrap ((i : Int) + 1) = (i : Int) + 1 := by rw [IntKind.wrap_i64]; omega
    have hb1n : ¬ ((i : Int) + 1 < 0) := by omega
    have hb1p : (0 : Int) ≤ (i : Int) + 1 := by omega
    have hb1t : ((i : Int) + 1).toNat = i + 1 := by omega
    have hbz : (i : Int) < (n : Int) + 1 := by omega
    have HEND : Hid (∀ (y : Nat → Value) (w3 : World) (E3 : Nat → Nat) (B3 : Nat → Lb) (m3 : Nat) (nu3 : Nat → Int) (pst3 : List Nat), E3 12 = E 12 → Sx w0 w3 E3 B3 n m3 nu3 pst3 D fb → Dx E3 n L0 pb qb y → y 90 = .int .i64 (n : Nat) → y 91 = .int .i64 (i : Nat) → K2 (F y) w3) := ?hend
    case hend =>
      clear k0 k5 ka kb h1 h10 h16 hns his
      intro y w3 E3 B3 m3 nu3 pst3 hE3 hS3 hf3 y1 y2
      refine HK2.out _ _ ?_
      clear HK2
      have HS3 : Hid (Sx w0 w3 E3 B3 n m3 nu3 pst3 D fb) := hS3
      have HF3 : Hid (Dx E3 n L0 pb qb y) := hf3
      clear hS3 hf3
      go_wp2
      have hf := HF3.out
      exact HK1.out _ _ ⟨g - 1, by omega, HJ.out _ _ _ ⟨_, rfl, E3, B3, m3, nu3, pst3, i + 1, by omega, hE3, HS3.out, ⟨by simp [fup_at, hf.h1], by simp [fup_at, hf.h2], by simp [fup_at, hf.h7], by simp [fup_at, hf.h8], by simp [fup_at, hf.h9], by simp [fup_at, hf.h10], by simp [fup_at, hf.h11], by simp [fup_at, hf.h12], by simp [fup_at, hf.h13], by simp [fup_at, hf.h16]⟩, by simp [fup_at, y1], by simp [fup_at]⟩⟩
    by_cases hneg : nu2 i < 0
    · have hd : decide (nu2 i < 0) = true := by simpa using hneg
      have HC : Hid _ := search_any hC HS.out.ds.drew HS.out.b10 HS.out.b11 hn hi hneg
      refine wp_seq_hid (fun K3 HK3 => ?_)
      go_wp2
      refine HK3.out _ _ ?_
      clear HK3
      refine wp_seq_hid (fun K3 HK3 => ?_)
      go_still (by kernel_rfl)
      go_wp2
      refine HK3.out _ _ ?_
      clear HK3 k0 k5 ka kb
      refine hF.cond (by omega) rfl (fun h0 => ?_) (fun h0 => ?_)
      · clear h0
        go_wp2_with (go_at_call 58; refine Calls.mono HC.out ?_; rintro e w5 ⟨rfl, E3, B3, m3, nu3, pst3, hk, hd3, hkeep, hpos⟩; dsimp only)
        have hf := HF.out.kept hk
        exact HEND.out _ _ E3 B3 m3 nu3 pst3 ((hk.e 12 (by omega) (by omega) (by omega) (by omega)).trans HE2.out) (HS.out.drew.kept hk hd3) ⟨by simp [fup_at, hf.h1], by simp [fup_at, hf.h2], by simp [fup_at, hf.h7], by simp [fup_at, hf.h8], by simp [fup_at, hf.h9], by simp [fup_at, hf.h10], by simp [fup_at, hf.h11], by simp [fup_at, hf.h12], by simp [fup_at, hf.h13], by simp [fup_at, hf.h16]⟩ (by simp [fup_at, hns]) (by simp [fup_at, his])
      · clear h0
        go_wp2
        have hf := HF.out
        exact HEND.out _ _ E2 B2 m2 nu2 pst2 HE2.out HS.out.drew ⟨by simp [fup_at, hf.h1], by simp [fup_at, hf.h2], by simp [fup_at, hf.h7], by simp [fup_at, hf.h8], by simp [fup_at, hf.h9], by simp [fup_at, hf.h10], by simp [fup_at, hf.h11], by simp [fup_at, hf.h12], by simp [fup_at, hf.h13], by simp [fup_at, hf.h16]⟩ (by simp [fup_at, hns]) (by simp [fup_at, his])
    · have hd : decide (nu2 i < 0) = false := by simpa using hneg
      refine wp_seq_hid (fun K3 HK3 => ?_)
      go_wp2
      refine HK3.out _ _ ?_
      clear HK3
      refine wp_seq_hid (fun K3 HK3 => ?_)
      go_still (by kernel_rfl)
      go_wp2
      refine HK3.out _ _ ?_
      clear HK3 k0 k5 ka kb
      refine hF.cond (by omega) rfl (fun h0 => by cases h0) (fun h0 => ?_)
      clear h0
      go_wp2
      have hf := HF.out
      exact HEND.out _ _ E2 B2 m2 nu2 pst2 HE2.out HS.out.drew ⟨by simp [fup_at, hf.h1], by simp [fup_at, hf.h2], by simp [fup_at, hf.h7], by simp [fup_at, hf.h8], by simp [fup_at, hf.h9], by simp [fup_at, hf.h10], by simp [fup_at, hf.h11], by simp [fup_at, hf.h12], by simp [fup_at, hf.h13], by simp [fup_at, hf.h16]⟩ (by simp [fup_at, hns]) (by simp [fup_at, his])
  · clear h0
    go_wp2
    refine HK.out _ _ ?_
    clear HK HK1 HJ HKb
    have hf := HF.out
    exact t23 hF hC hPr hL hn HS.out ⟨by simp [fup_at, hf.h1], by simp [fup_at, hf.h2], by simp [fup_at, hf.h7], by simp [fup_at, hf.h8], by simp [fup_at, hf.h9], by simp [fup_at, hf.h10], by simp [fup_at, hf.h11], by simp [fup_at, hf.h12], by simp [fup_at, hf.h13], by simp [fup_at, hf.h16]⟩ (by rw [HE2.out]; exact HR.out)

set_option maxHeartbeats 4000000 in
set_option maxRecDepth 100000 in
theorem t12 {F : (Nat → Value) → Act} (hF : Fr 577 F) {w0 w : World} {E : Nat → Nat} {B : Nat → Lb} {n m L0 pb qb fb : Nat} {p0 q0 : Nat → Nat} {nu : Nat → Int} {pst : List Nat} {D f : Nat → Value} {bk : Nat → Nat} {sc : Nat → Option Nat} {R : Ending → World → Prop}
    (hC : Cfg w0 fb n bk sc) (hPr : Pr w0 n L0 pb qb p0 q0) (hL : L0 ≤ 100000000) (hn : n ≤ 100000) (hS : Sx w0 w E B n m nu pst D fb) (hf : Dx E n L0 pb qb f)
    (hR : ∀ w', DomOk w0 w' n (E 12) → R (.returned (.pointer (some ⟨E 12, 0, none⟩))) w') :
    ((Ybaz.f38.body.bind (codeAt 12)).getD .skip).wp Ybaz.prog (bodyPost Ybaz.prog Ybaz.f38 R) (F f) w := by
  conv => arg 2; whnf
  have hget := hF.get
  have hmk := hF.up
  have HR : Hid (∀ w', DomOk w0 w' n (E 12) → R (.returned (.pointer (some ⟨E 12, 0, none⟩))) w') := hR
  have HS : Hid (Sx w0 w E B n m nu pst D fb) := hS
  have HF : Hid (Dx E n L0 pb qb f) := hf
  have h7 := hf.h7
  clear hR hS hf
  refine wp_seq_hid (fun K HK => ?_)
  refine wp_seq_hid (fun K2 HK2 => ?_)
  go_wp2
  refine HK2.out _ _ ?_
  clear HK2 K2 h7
  have hf := HF.out
  refine wp_block ?_
  refine wp_loop_ghost_k (fun g a w => ∃ f, a = F f ∧ ∃ E' B' m' nu' pst' i, g + i = n ∧ E' 12 = E 12 ∧ Sx w0 w E' B' n m' nu' pst' D fb ∧  Dx E' n L0 pb qb f ∧ f 74 = .int .i64 (n : Nat) ∧ f 75 = .int .i64 (i : Nat)) n ⟨_, rfl, E, B, m, nu, pst, 0, rfl, rfl, HS.out,  ⟨by simp [fup_at, hf.h1], by simp [fup_at, hf.h2], by simp [fup_at, hf.h7], by simp [fup_at, hf.h8], by simp [fup_at, hf.h9], by simp [fup_at, hf.h10], by simp [fup_at, hf.h11], by simp [fup_at, hf.h12], by simp [fup_at, hf.h13], by simp [fup_at, hf.h16]⟩, by simp [fup_at], by simp [fup_at]⟩ ?_
  clear HS HF hf f
  rintro g _ w2 ⟨f, rfl, E2, B2, m2, nu2, pst2, i, hg, hE2, hS,  hf, hns, his⟩ J K1 hJ hK1
  have HJ : Hid _ := hJ
  have HK1 : Hid (∀ a' w', Handed J g a' w' → K1 a' w') := hK1
  have HS : Hid (Sx w0 w2 E2 B2 n m2 nu2 pst2 D fb) := hS
  have HF : Hid (Dx E2 n L0 pb qb f) := hf
  have HE2 : Hid (E2 12 = E 12) := hE2
  clear hJ hK1 hS hE2 hf
  refine wp_seq_hid (fun Ka HKa => ?_)
  go_wp2
  refine HKa.out _ _ ?_
  clear HKa Ka
  refine wp_seq_hid (fun Kb HKb => ?_)
  refine hF.cond (by omega) rfl (fun h0 => ?_) (fun h0 => ?_)
  · have hi : i < n := by simpa using h0
    have hiz : (i : Int) < (n : Int) := by omega
    clear h0
    go_wp2
    refine HKb.out _ _ ?_
    clear HKb
    refine wp_seq_hid (fun K2 HK2 => ?_)
    refine wp_block ?_
    have k0 := HS.out.ds.st.box (k := 0) (by omega) HS.out.ds.b0
    have k5 := HS.out.ds.st.arr (k := 5) (by omega) HS.out.ds.b5 hi
    have kd := HS.out.ds.st.valAt (k := 12) (by omega) HS.out.b12 (i := 0) (by omega)
    rw [HS.out.d0] at kd
    obtain ⟨u, ku, _⟩ := HS.out.ds.st.read 13 (by omega) (i := i) (by rw [HS.out.b13]; exact hi)
    have kf := HS.out.ds.st.frz 13 (by omega) i
    have h9 := HF.out.h9
    have h10 := HF.out.h10
    have HEND : Hid (∀ (y : Nat → Value) (w3 : World) (E3 : Nat → Nat) (B3 : Nat → Lb) (m3 : Nat) (nu3 : Nat → Int) (pst3 : List Nat), E3 12 = E 12 → Sx w0 w3 E3 B3 n m3 nu3 pst3 D fb → Dx E3 n L0 pb qb y → y 74 = .int .i64 (n : Nat) → y 75 = .int .i64 (i : Nat) → K2 (F y) w3) := ?hend
    case hend =>
      clear k0 k5 kd ku kf h9 h10 hns his
      intro y w3 E3 B3 m3 nu3 pst3 hE3 hS3 hf3 y1 y2
      refine HK2.out _ _ ?_
      clear HK2
      have HS3 : Hid (Sx w0 w3 E3 B3 n m3 nu3 pst3 D fb) := hS3
      have HF3 : Hid (Dx E3 n L0 pb qb y) := hf3
      clear hS3 hf3
      go_wp2
      have hf := HF3.out
      exact HK1.out _ _ ⟨g - 1, by omega, HJ.out _ _ _ ⟨_, rfl, E3, B3, m3, nu3, pst3, i + 1, by omega, hE3, HS3.out, ⟨by simp [fup_at, hf.h1], by simp [fup_at, hf.h2], by simp [fup_at, hf.h7], by simp [fup_at, hf.h8], by simp [fup_at, hf.h9], by simp [fup_at, hf.h10], by simp [fup_at, hf.h11], by simp [fup_at, hf.h12], by simp [fup_at, hf.h13], by simp [fup_at, hf.h16]⟩, by simp [fup_at, y1], by simp [fup_at]⟩⟩
    refine wp_seq_hid (fun K3 HK3 => ?_)
    go_wp2
    refine HK3.out _ _ ?_
    clear HK3
    go_still_tail 10, (by kernel_rfl)
    go_wp2
    have hf := HF.out
    have hs := HS.out.drew
    have hd : Ds w0 (w2.drew.setCell ⟨E2 13, i, none⟩ (.bool (decide (0 ≤ nu2 i)))) E2 B2 n m2 nu2 [] pst2 := ⟨hs.ds.st.put 13 (by omega) (by rw [hs.b13]; exact ⟨_, rfl⟩), hs.ds.b0, hs.ds.b5, hs.ds.b1, hs.ds.b2, hs.ds.b3, hs.ds.b4, hs.ds.fr, hs.ds.cnt, hs.ds.sv, hs.ds.pv, hs.ds.nd⟩
    exact HEND.out _ _ E2 B2 m2 nu2 pst2 HE2.out ⟨hd, hs.b10, hs.b11, hs.b12, hs.b13, hs.d0⟩ ⟨by simp [fup_at, hf.h1], by simp [fup_at, hf.h2], by simp [fup_at, hf.h7], by simp [fup_at, hf.h8], by simp [fup_at, hf.h9], by simp [fup_at, hf.h10], by simp [fup_at, hf.h11], by simp [fup_at, hf.h12], by simp [fup_at, hf.h13], by simp [fup_at, hf.h16]⟩ (by simp [fup_at, hns]) (by simp [fup_at, his])
  · clear h0
    go_wp2
    refine HK.out _ _ ?_
    clear HK HK1 HJ HKb
    have hf := HF.out
    exact t17 hF hC hPr hL hn HS.out ⟨by simp [fup_at, hf.h1], by simp [fup_at, hf.h2], by simp [fup_at, hf.h7], by simp [fup_at, hf.h8], by simp [fup_at, hf.h9], by simp [fup_at, hf.h10], by simp [fup_at, hf.h11], by simp [fup_at, hf.h12], by simp [fup_at, hf.h13], by simp [fup_at, hf.h16]⟩ (by rw [HE2.out]; exact HR.out)

set_option maxHeartbeats 4000000 in
set_option maxRecDepth 100000 in
theorem t10 {F : (Nat → Value) → Act} (hF : Fr 577 F) {w0 w : World} {E : Nat → Nat} {B : Nat → Lb} {n m L0 pb qb fb : Nat} {p0 q0 : Nat → Nat} {nu : Nat → Int} {pst : List Nat} {D f : Nat → Value} {bk : Nat → Nat} {sc : Nat → Option Nat} {R : Ending → World → Prop}
    (hC : Cfg w0 fb n bk sc) (hPr : Pr w0 n L0 pb qb p0 q0) (hL : L0 ≤ 100000000) (hn : n ≤ 100000) (hS : Sx w0 w E B n m nu pst D fb) (hf : Dx E n L0 pb qb f)
    (hR : ∀ w', DomOk w0 w' n (E 12) → R (.returned (.pointer (some ⟨E 12, 0, none⟩))) w') (hn1 : 1 ≤ n) (h0 : nu 0 < 0) :
    ((Ybaz.f38.body.bind (codeAt 10)).getD .skip).wp Ybaz.prog (bodyPost Ybaz.prog Ybaz.f38 R) (F f) w := by
  conv => arg 2; whnf
  have hget := hF.get
  have hmk := hF.up
  have HR : Hid (∀ w', DomOk w0 w' n (E 12) → R (.returned (.pointer (some ⟨E 12, 0, none⟩))) w') := hR
  have HS : Hid (Sx w0 w E B n m nu pst D fb) := hS
  have HF : Hid (Dx E n L0 pb qb f) := hf
  have h7 := hf.h7
  clear hR hS hf
  have hd : decide (0 < n) = true := by simp; omega
  have HC : Hid _ := search_any hC HS.out.ds HS.out.b10 HS.out.b11 hn hn1 h0
  have h16 := HF.out.h16
  clear h0
  refine wp_seq_hid (fun K HK => ?_)
  refine wp_seq_hid (fun K2 HK2 => ?_)
  go_wp2
  refine HK2.out _ _ ?_
  clear HK2 K2
  refine hF.cond (by omega) rfl (fun h0 => ?_) (fun h0 => by cases h0)
  clear h0
  go_wp2_with (go_at_call 58; refine Calls.mono HC.out ?_; rintro e w5 ⟨rfl, E3, B3, m3, nu3, pst3, hk, hd3, hkeep, hpos⟩; dsimp only)
  have hf := HF.out.kept hk
  refine HK.out _ _ ?_
  clear HK
  exact t12 hF hC hPr hL hn (HS.out.kept hk hd3) ⟨by simp [fup_at, hf.h1], by simp [fup_at, hf.h2], by simp [fup_at, hf.h7], by simp [fup_at, hf.h8], by simp [fup_at, hf.h9], by simp [fup_at, hf.h10], by simp [fup_at, hf.h11], by simp [fup_at, hf.h12], by simp [fup_at, hf.h13], by simp [fup_at, hf.h16]⟩ (by rw [hk.e 12 (by omega) (by omega) (by omega) (by omega)]; exact HR.out)
end Go.Proofs.YbulkexmzaGreat
