/-
  newDominance (38): from region 10 on (the searches).
-/
import Derived.Test.YbulkexmzaGreatUk
namespace Go.Proofs.YbulkexmzaGreat
open Go.RowKit
attribute [local go_sem] fup_at

/-- Between two searches. -/
structure Sx (w0 w : World) (E : Nat → Nat) (B : Nat → Lb) (n m : Nat) (nu : Nat → Int) (pst : List Nat) (D : Nat → Value) (fb : Nat) : Prop where
  ds : Ds w0 w E B n m nu [] pst
  b10 : B 10 = bx 159 (reachV E)
  b11 : B 11 = bx 56 (.pointer (some ⟨fb, 0, none⟩))
  b12 : B 12 = vals 130 21 D
  b13 : B 13 = bools n
  d0 : D 0 = .slice (some ⟨E 13, 0, none⟩) n n
theorem Sx.kept {w0 w w' : World} {E E' : Nat → Nat} {B B' : Nat → Lb} {n m m' fb : Nat} {nu nu' : Nat → Int} {pst pst' : List Nat} {D : Nat → Value} (h : Sx w0 w E B n m nu pst D fb) (k : Kept E E' B B') (hd : Ds w0 w' E' B' n m' nu' [] pst') : Sx w0 w' E' B' n m' nu' pst' D fb := by
  obtain ⟨ke, kb⟩ := k
  refine ⟨hd, ?_, (kb 11 (by omega)).trans h.b11, (kb 12 (by omega)).trans h.b12, (kb 13 (by omega)).trans h.b13, ?_⟩
  · rw [kb 10 (by omega), h.b10]
    unfold reachV
    rw [ke 0 (by omega) (by omega) (by omega) (by omega), ke 1 (by omega) (by omega) (by omega) (by omega), ke 2 (by omega) (by omega) (by omega) (by omega), ke 4 (by omega) (by omega) (by omega) (by omega)]
  · rw [ke 13 (by omega) (by omega) (by omega) (by omega)]; exact h.d0
theorem Sx.drew {w0 w : World} {E : Nat → Nat} {B : Nat → Lb} {n m fb : Nat} {nu : Nat → Int} {pst : List Nat} {D : Nat → Value} (h : Sx w0 w E B n m nu pst D fb) : Sx w0 w.drew E B n m nu pst D fb := ⟨h.ds.drew, h.b10, h.b11, h.b12, h.b13, h.d0⟩
/-- The slots. -/
structure Dx (E : Nat → Nat) (n L0 pb qb : Nat) (f : Nat → Value) : Prop where
  h1 : f 1 = .slice (some ⟨pb, 0, none⟩) (n + 1) (n + 1)
  h2 : f 2 = .slice (some ⟨qb, 0, none⟩) L0 L0
  h7 : f 7 = .int .i64 (n : Nat)
  h8 : f 8 = .int .i64 (n : Nat)
  h9 : f 9 = .pointer (some ⟨E 12, 0, none⟩)
  h10 : f 10 = .pointer (some ⟨E 0, 0, none⟩)
  h11 : f 11 = .pointer (some ⟨E 1, 0, none⟩)
  h12 : f 12 = .pointer (some ⟨E 2, 0, none⟩)
  h13 : f 13 = .pointer (some ⟨E 3, 0, none⟩)
  h16 : f 16 = .func (.func 58) #[] #[.pointer (some ⟨E 10, 0, none⟩), .pointer (some ⟨E 4, 0, none⟩), .pointer (some ⟨E 11, 0, none⟩), .pointer (some ⟨E 0, 0, none⟩), .pointer (some ⟨E 3, 0, none⟩)]
theorem Dx.kept {E E' : Nat → Nat} {B B' : Nat → Lb} {n L0 pb qb : Nat} {f : Nat → Value} (h : Dx E n L0 pb qb f) (k : Kept E E' B B') : Dx E' n L0 pb qb f := by
  obtain ⟨ke, _⟩ := k
  have e : ∀ i, i ≠ 6 → i ≠ 7 → i ≠ 8 → i ≠ 9 → E i = E' i := fun i h6 h7 h8 h9 => (ke i h6 h7 h8 h9).symm
  obtain ⟨h1, h2, h7, h8, h9, h10, h11, h12, h13, h16⟩ := h
  rw [e 12 (by omega) (by omega) (by omega) (by omega)] at h9
  rw [e 0 (by omega) (by omega) (by omega) (by omega)] at h10
  rw [e 1 (by omega) (by omega) (by omega) (by omega)] at h11
  rw [e 2 (by omega) (by omega) (by omega) (by omega)] at h12
  rw [e 3 (by omega) (by omega) (by omega) (by omega)] at h13
  rw [e 10 (by omega) (by omega) (by omega) (by omega), e 4 (by omega) (by omega) (by omega) (by omega), e 11 (by omega) (by omega) (by omega) (by omega), e 0 (by omega) (by omega) (by omega) (by omega), e 3 (by omega) (by omega) (by omega) (by omega)] at h16
  exact ⟨h1, h2, h7, h8, h9, h10, h11, h12, h13, h16⟩

set_option maxHeartbeats 4000000 in
set_option maxRecDepth 100000 in
theorem t23 {F : (Nat → Value) → Act} (hF : Fr 577 F) {w0 w : World} {E : Nat → Nat} {B : Nat → Lb} {n m L0 pb qb fb : Nat} {p0 q0 : Nat → Nat} {nu : Nat → Int} {pst : List Nat} {D f : Nat → Value} {bk : Nat → Nat} {sc : Nat → Option Nat} {R : Ending → World → Prop}
    (hC : Cfg w0 fb n bk sc) (hPr : Pr w0 n L0 pb qb p0 q0) (hL : L0 ≤ 100000000) (hn : n ≤ 100000) (hS : Sx w0 w E B n m nu pst D fb) (hf : Dx E n L0 pb qb f)
    (hR : ∀ w', DomOk w0 w' n (E 12) → R (.returned (.pointer (some ⟨E 12, 0, none⟩))) w') :
    ((Ybaz.f38.body.bind (codeAt 23)).getD .skip).wp Ybaz.prog (bodyPost Ybaz.prog Ybaz.f38 R) (F f) w := by
  conv => arg 2; whnf
  have hget := hF.get
  have hmk := hF.up
  have HR : Hid (∀ w', DomOk w0 w' n (E 12) → R (.returned (.pointer (some ⟨E 12, 0, none⟩))) w') := hR
  have HS : Hid (Sx w0 w E B n m nu pst D fb) := hS
  have HF : Hid (Dx E n L0 pb qb f) := hf
  have h7 := hf.h7
  clear hR hS hf
  refine wp_seq_hid (fun K HK => ?_)
  refine wp_seq_hid (fun K2 HK2 => ?_)
  go_wp2
  refine HK2.out _ _ ?_
  clear HK2 K2 h7
  have hf := HF.out
  refine wp_block ?_
  refine wp_loop_ghost_k (fun g a w => ∃ f, a = F f ∧ ∃ E' B' m' nu' pst' i, g + i = n ∧ E' 12 = E 12 ∧ Sx w0 w E' B' n m' nu' pst' D fb ∧ (∀ k, k < i → 0 ≤ nu' k) ∧ Dx E' n L0 pb qb f ∧ f 115 = .int .i64 (n : Nat) ∧ f 116 = .int .i64 (i : Nat)) n ⟨_, rfl, E, B, m, nu, pst, 0, rfl, rfl, HS.out, fun _ h => absurd h (Nat.not_lt_zero _), ⟨by simp [fup_at, hf.h1], by simp [fup_at, hf.h2], by simp [fup_at, hf.h7], by simp [fup_at, hf.h8], by simp [fup_at, hf.h9], by simp [fup_at, hf.h10], by simp [fup_at, hf.h11], by simp [fup_at, hf.h12], by simp [fup_at, hf.h13], by simp [fup_at, hf.h16]⟩, by simp [fup_at], by simp [fup_at]⟩ ?_
  clear HS HF hf f
  rintro g _ w2 ⟨f, rfl, E2, B2, m2, nu2, pst2, i, hg, hE2, hS, hall, hf, hns, his⟩ J K1 hJ hK1
  have HJ : Hid _ := hJ
  have HK1 : Hid (∀ a' w', Handed J g a' w' → K1 a' w') := hK1
  have HS : Hid (Sx w0 w2 E2 B2 n m2 nu2 pst2 D fb) := hS
  have HF : Hid (Dx E2 n L0 pb qb f) := hf
  have HE2 : Hid (E2 12 = E 12) := hE2
  clear hJ hK1 hS hE2 hf
  refine wp_seq_hid (fun Ka HKa => ?_)
  go_wp2
  refine HKa.out _ _ ?_
  clear HKa Ka
  refine wp_seq_hid (fun Kb HKb => ?_)
  refine hF.cond (by omega) rfl (fun h0 => ?_) (fun h0 => ?_)
  · have hi : i < n := by simpa using h0
    have hiz : (i : Int) < (n : Int) := by omega
    clear h0
    go_wp2
    refine HKb.out _ _ ?_
    clear HKb
    refine wp_seq_hid (fun K2 HK2 => ?_)
    refine wp_block ?_
    have HA : Hid (∀ k, k < i → 0 ≤ nu2 k) := hall
    clear hall
    have k0 := HS.out.ds.st.box (k := 0) (by omega) HS.out.ds.b0
    have k5 := HS.out.ds.st.arr (k := 5) (by omega) HS.out.ds.b5 hi
    have h10 := HF.out.h10
    have h16 := HF.out.h16
    have HEND : Hid (∀ (y : Nat → Value) (w3 : World) (E3 : Nat → Nat) (B3 : Nat → Lb) (m3 : Nat) (nu3 : Nat → Int) (pst3 : List Nat), E3 12 = E 12 → Sx w0 w3 E3 B3 n m3 nu3 pst3 D fb → (∀ k, k < i + 1 → 0 ≤ nu3 k) → Dx E3 n L0 pb qb y → y 115 = .int .i64 (n : Nat) → y 116 = .int .i64 (i : Nat) → K2 (F y) w3) := ?hend
    case hend =>
      clear k0 k5 h10 h16 hns his
      intro y w3 E3 B3 m3 nu3 pst3 hE3 hS3 ha3 hf3 y1 y2
      refine HK2.out _ _ ?_
      clear HK2
      have HS3 : Hid (Sx w0 w3 E3 B3 n m3 nu3 pst3 D fb) := hS3
      have HF3 : Hid (Dx E3 n L0 pb qb y) := hf3
      have HA3 : Hid (∀ k, k < i + 1 → 0 ≤ nu3 k) := ha3
      clear hS3 hf3 ha3
      go_wp2
      have hf := HF3.out
      exact HK1.out _ _ ⟨g - 1, by omega, HJ.out _ _ _ ⟨_, rfl, E3, B3, m3, nu3, pst3, i + 1, by omega, hE3, HS3.out, HA3.out, ⟨by simp [fup_at, hf.h1], by simp [fup_at, hf.h2], by simp [fup_at, hf.h7], by simp [fup_at, hf.h8], by simp [fup_at, hf.h9], by simp [fup_at, hf.h10], by simp [fup_at, hf.h11], by simp [fup_at, hf.h12], by simp [fup_at, hf.h13], by simp [fup_at, hf.h16]⟩, by simp [fup_at, y1], by simp [fup_at]⟩⟩
    by_cases hneg : nu2 i < 0
    · have hd : decide (nu2 i < 0) = true := by simpa using hneg
      have HC : Hid _ := search_any hC HS.out.ds HS.out.b10 HS.out.b11 hn hi hneg
      refine wp_seq_hid (fun K3 HK3 => ?_)
      go_wp2
      refine HK3.out _ _ ?_
      clear HK3
      refine wp_seq_hid (fun K3 HK3 => ?_)
      go_wp2
      refine HK3.out _ _ ?_
      clear HK3
      refine hF.cond (by omega) rfl (fun h0 => ?_) (fun h0 => by cases h0)
      clear h0
      go_wp2_with (go_at_call 58; refine Calls.mono HC.out ?_; rintro e w5 ⟨rfl, E3, B3, m3, nu3, pst3, hk, hd3, hkeep, hpos⟩; dsimp only)
      have hf := HF.out.kept hk
      refine HEND.out _ _ E3 B3 m3 nu3 pst3 ((hk.e 12 (by omega) (by omega) (by omega) (by omega)).trans HE2.out) (HS.out.kept hk hd3) (fun k hk2 => ?_) ⟨by simp [fup_at, hf.h1], by simp [fup_at, hf.h2], by simp [fup_at, hf.h7], by simp [fup_at, hf.h8], by simp [fup_at, hf.h9], by simp [fup_at, hf.h10], by simp [fup_at, hf.h11], by simp [fup_at, hf.h12], by simp [fup_at, hf.h13], by simp [fup_at, hf.h16]⟩ (by simp [fup_at, hns]) (by simp [fup_at, his])
      by_cases e : k = i
      · subst e; exact hpos
      · have h0 := HA.out k (by omega)
        rw [hkeep k h0]; exact h0
    · have hd : decide (nu2 i < 0) = false := by simpa using hneg
      refine wp_seq_hid (fun K3 HK3 => ?_)
      go_wp2
      refine HK3.out _ _ ?_
      clear HK3
      refine wp_seq_hid (fun K3 HK3 => ?_)
      go_wp2
      refine HK3.out _ _ ?_
      clear HK3
      refine hF.cond (by omega) rfl (fun h0 => by cases h0) (fun h0 => ?_)
      clear h0
      go_wp2
      have hf := HF.out
      refine HEND.out _ _ E2 B2 m2 nu2 pst2 HE2.out HS.out (fun k hk2 => ?_) ⟨by simp [fup_at, hf.h1], by simp [fup_at, hf.h2], by simp [fup_at, hf.h7], by simp [fup_at, hf.h8], by simp [fup_at, hf.h9], by simp [fup_at, hf.h10], by simp [fup_at, hf.h11], by simp [fup_at, hf.h12], by simp [fup_at, hf.h13], by simp [fup_at, hf.h16]⟩ (by simp [fup_at, hns]) (by simp [fup_at, his])
      by_cases e : k = i
      · subst e; omega
      · exact HA.out k (by omega)
  · have hi : i = n := by
      have : ¬ i < n := by simpa using h0
      omega
    clear h0
    subst hi
    go_wp2
    refine HK.out _ _ ?_
    clear HK HK1 HJ HKb
    have hs := HS.out
    have hcl := cntV_le nu2 i
    have hcn := hs.ds.cnt
    have s2 := hs.ds.st.bound (k := 5) hs.ds.b5 (lo := fun _ => 0) (hi := fun _ => (m2 : Int)) (fun k hk => ⟨hall k hk, (hs.ds.fr k hk).2⟩)
    have hf := HF.out
    have hnd : pst2.Nodup := by have := hs.ds.nd; simpa using this
    refine t29 hF (D := D) hPr hL hn hnd (fun z hz => (hs.ds.pv z hz).1) (m := m2) (by omega) (by omega) s2 ⟨?_, upd_same _ _ _, ?_, ?_, ?_⟩ ?_ ?_ hs.d0 ⟨by simp [fup_at, hf.h7], by simp [fup_at, hf.h8], by simp [fup_at, hf.h9], by simp [fup_at, hf.h10], by simp [fup_at, hf.h11], by simp [fup_at, hf.h12], by simp [fup_at, hf.h13]⟩ (by simp [fup_at, hf.h1]) (by simp [fup_at, hf.h2]) (by rw [HE2.out]; exact HR.out)
    · rw [upd_other _ _ (by omega)]; exact hs.ds.b0
    · obtain ⟨v, c, h1, h2⟩ := hs.ds.b1
      exact ⟨v, c, by rw [upd_other _ _ (by omega)]; exact h1, h2.congr rfl (upd_other _ _ (by omega))⟩
    · obtain ⟨v, c, h1, h2⟩ := hs.ds.b2
      exact ⟨v, c, by rw [upd_other _ _ (by omega)]; exact h1, h2.congr rfl (upd_other _ _ (by omega))⟩
    · obtain ⟨v, c, h1, h2⟩ := hs.ds.b3
      exact ⟨v, c, by rw [upd_other _ _ (by omega)]; exact h1, h2.congr rfl (upd_other _ _ (by omega))⟩
    · rw [upd_other _ _ (by omega)]; exact hs.b12
    · rw [upd_other _ _ (by omega)]; exact hs.b13
end Go.Proofs.YbulkexmzaGreat
