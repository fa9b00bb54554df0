/-
  Liveness (19): from region 14 on (the edges are counted).
-/
import Derived.Test.YbulkexmzaGreatLk
namespace Go.Proofs.YbulkexmzaGreat
open Go.RowKit
attribute [local go_sem] fup_at

def sk (sc : Nat → Option Nat) (i k : Nat) : Nat := if k = 0 then 0 else cn sc i (k - 1)

set_option maxHeartbeats 4000000 in
set_option maxRecDepth 100000 in
theorem l14t {F : (Nat → Value) → Act} (hF : Fr 371 F) {w0 w : World} {E : Nat → Nat} {B : Nat → Lb} {n fb ac : Nat} {aa : Option Addr} {D f : Nat → Value} {bk : Nat → Nat} {sc : Nat → Option Nat} {R : Ending → World → Prop}
    (hC : Cfg w0 fb n bk sc) (hQ : Lq w0 w E B n D (sk sc 0)) (hn : n ≤ 100000) (hn1 : 1 ≤ n) (hf : Lsl E n fb ac aa f)
    (hR : ∀ w', w0.Since w0.heap.size w' → R (.returned (.pointer (some ⟨E 0, 0, none⟩))) w') :
    ((Ybaz.f19.body.bind (codeAt 14)).getD .skip).wp Ybaz.prog (bodyPost Ybaz.prog Ybaz.f19 R) (F f) w := by
  conv => arg 2; whnf
  have hget := hF.get
  have hmk := hF.up
  have HR : Hid (∀ w', w0.Since w0.heap.size w' → R (.returned (.pointer (some ⟨E 0, 0, none⟩))) w') := hR
  have HQ : Hid (Lq w0 w E B n D (sk sc 0)) := hQ
  have HF : Hid (Lsl E n fb ac aa f) := hf
  obtain ⟨bb, bo, bc, kB0, hblk⟩ := hC.blocks
  have kB := old_cell hQ.st.since kB0
  have h0 := hf.h0
  clear hR hQ hf
  refine wp_seq_hid (fun K HK => ?_)
  refine wp_seq_hid (fun K2 HK2 => ?_)
  go_wp2
  refine HK2.out _ _ ?_
  clear HK2 K2 kB kB0
  have hf := HF.out
  refine wp_block ?_
  refine wp_loop_ghost_k (fun g a w => ∃ f, a = F f ∧ ∃ B' i, g + i = n ∧ Lq w0 w E B' n D (sk sc i) ∧ Lsl E n fb ac aa f ∧ f 101 = .slice (some ⟨bb, bo, none⟩) n bc ∧ f 102 = .int .i64 (n : Nat) ∧ f 103 = .int .i64 (i : Nat)) n ⟨_, rfl, B, 0, rfl, HQ.out, ⟨by simp [fup_at, hf.h0], by simp [fup_at, hf.h1], by simp [fup_at, hf.h2], by simp [fup_at, hf.h7], by simp [fup_at, hf.h11]⟩, by simp [fup_at], by simp [fup_at], by simp [fup_at]⟩ ?_
  clear HQ HF hf h0 f
  rintro g _ w1 ⟨f, rfl, B1, i, hg, hQ, hf, h101, h102, h103⟩ J K1 hJ hK1
  have HJ : Hid _ := hJ
  have HK1 : Hid (∀ a' w', Handed J g a' w' → K1 a' w') := hK1
  have HQ : Hid (Lq w0 w1 E B1 n D (sk sc i)) := hQ
  have HF : Hid (Lsl E n fb ac aa f) := hf
  clear hJ hK1 hQ hf
  refine wp_seq_hid (fun Ka HKa => ?_)
  go_wp2
  refine HKa.out _ _ ?_
  clear HKa Ka
  refine wp_seq_hid (fun Kb HKb => ?_)
  refine hF.cond (by omega) rfl (fun h0 => ?_) (fun h0 => ?_)
  · have hi : i < n := by simpa using h0
    have hiz : (i : Int) < (n : Int) := by omega
    clear h0
    go_wp2
    refine HKb.out _ _ ?_
    clear HKb
    have kblk := old_cell HQ.out.st.since (hblk i hi)
    refine wp_seq_hid (fun K2 HK2 => ?_)
    refine wp_block ?_
    refine wp_seq_hid (fun K3 HK3 => ?_)
    go_wp2
    refine HK3.out _ _ ?_
    clear HK3
    have HEND : Hid (∀ (y : Nat → Value) (w3 : World) (B3 : Nat → Lb), Lq w0 w3 E B3 n D (sk sc (i + 1)) → Lsl E n fb ac aa y → y 101 = .slice (some ⟨bb, bo, none⟩) n bc → y 102 = .int .i64 (n : Nat) → y 103 = .int .i64 (i : Nat) → K2 (F y) w3) := ?hend
    case hend =>
      clear kblk h101 h102 h103
      intro y w3 B3 hQ3 hf3 y101 y102 y103
      refine HK2.out _ _ ?_
      clear HK2
      have HQ3 : Hid (Lq w0 w3 E B3 n D (sk sc (i + 1))) := hQ3
      have HF3 : Hid (Lsl E n fb ac aa y) := hf3
      clear hQ3 hf3
      go_wp2
      have hf := HF3.out
      exact HK1.out _ _ ⟨g - 1, by omega, HJ.out _ _ _ ⟨_, rfl, B3, i + 1, by omega, HQ3.out, ⟨by simp [fup_at, hf.h0], by simp [fup_at, hf.h1], by simp [fup_at, hf.h2], by simp [fup_at, hf.h7], by simp [fup_at, hf.h11]⟩, by simp [fup_at, y101], by simp [fup_at, y102], by simp [fup_at]⟩⟩
    rcases hC.succ i hi with ⟨hs, ks0⟩ | ⟨t, sb, so, c, hs, ht, ks0, kt0⟩
    · have ks := old_cell HQ.out.st.since ks0
      refine wp_seq_hid (fun K3 HK3 => ?_)
      go_wp2
      refine HK3.out _ _ ?_
      clear HK3
      refine wp_block ?_
      refine wp_loop_once ?_
      refine wp_seq_hid (fun K3 HK3 => ?_)
      go_wp2
      refine HK3.out _ _ ?_
      clear HK3
      refine wp_seq_hid (fun K3 HK3 => ?_)
      refine hF.cond (by omega) rfl (fun h => by cases h) (fun h => ?_)
      clear HK3 h
      go_wp2
      have hf := HF.out
      have hsk : sk sc (i + 1) = sk sc i := by
        funext k
        unfold sk
        split
        · rfl
        · simp [cn, hs]
      exact HEND.out _ _ B1 (by rw [hsk]; exact HQ.out) ⟨by simp [fup_at, hf.h0], by simp [fup_at, hf.h1], by simp [fup_at, hf.h2], by simp [fup_at, hf.h7], by simp [fup_at, hf.h11]⟩ (by simp [fup_at, h101]) (by simp [fup_at, h102]) (by simp [fup_at, h103])
    · have ks := old_cell HQ.out.st.since ks0
      refine wp_seq_hid (fun K3 HK3 => ?_)
      go_wp2
      refine HK3.out _ _ ?_
      clear HK3 ks ks0
      have hf := HF.out
      refine wp_block ?_
      refine wp_loop_ghost_k (fun g a w => ∃ f, a = F f ∧ ∃ B' j, g + j = 1 ∧ Lq w0 w E B' n D (sk sc (i + j)) ∧ Lsl E n fb ac aa f ∧ f 101 = .slice (some ⟨bb, bo, none⟩) n bc ∧ f 102 = .int .i64 (n : Nat) ∧ f 103 = .int .i64 (i : Nat) ∧ f 110 = .slice (some ⟨sb, so, none⟩) 1 c ∧ f 111 = .int .i64 1 ∧ f 112 = .int .i64 (j : Nat)) 1 ⟨_, rfl, B1, 0, rfl, HQ.out, ⟨by simp [fup_at, hf.h0], by simp [fup_at, hf.h1], by simp [fup_at, hf.h2], by simp [fup_at, hf.h7], by simp [fup_at, hf.h11]⟩, by simp [fup_at, h101], by simp [fup_at, h102], by simp [fup_at, h103], by simp [fup_at], by simp [fup_at], by simp [fup_at]⟩ ?_
      clear HQ HF hf h101 h102 h103 kblk f
      rintro g2 _ w2 ⟨f, rfl, B2, j, hg2, hQ, hf, h101, h102, h103, h110, h111, h112⟩ J2 K4 hJ2 hK4
      have HJ2 : Hid _ := hJ2
      have HK4 : Hid (∀ a' w', Handed J2 g2 a' w' → K4 a' w') := hK4
      have HQ : Hid (Lq w0 w2 E B2 n D (sk sc (i + j))) := hQ
      have HF : Hid (Lsl E n fb ac aa f) := hf
      clear hJ2 hK4 hQ hf
      refine wp_seq_hid (fun Ka HKa => ?_)
      by_cases hj : j = 0
      · subst hj
        go_wp2
        refine HKa.out _ _ ?_
        clear HKa
        refine wp_seq_hid (fun Kb HKb => ?_)
        refine hF.cond (by omega) rfl (fun h0 => ?_) (fun h0 => by cases h0)
        clear h0
        go_wp2
        refine HKb.out _ _ ?_
        clear HKb
        refine wp_seq_hid (fun K3 HK3 => ?_)
        refine wp_block ?_
        refine wp_seq_hid (fun K5 HK5 => ?_)
        have kt := old_cell HQ.out.st.since kt0
        go_wp2
        refine HK5.out _ _ ?_
        clear HK5 kt
        have hq : Lq w0 w2 E B2 n D (sk sc i) := HQ.out
        have hf := HF.out
        have k1 := hq.st.box (k := 1) (by omega) hq.b1
        have k3 := hq.st.valAt (k := 0) (by omega) hq.b0 (i := 3) (by omega)
        rw [hq.d3] at k3
        have kc : w2.cell? ⟨E 2, t + 1, none⟩ = some (.int .i64 ((cn sc i t : Nat) : Int)) := hq.st.arr (k := 2) (n := n + 1) (f := fun b => ((sk sc i b : Nat) : Int)) (by omega) hq.b2 (i := t + 1) (by omega)
        have hcl := cn_le sc t i
        refine l20 hF k1 k3 (old_cell hq.st.since (hC.id t ht)) kc (hq.st.frz 2 (by omega) (t + 1)) ht hn (by omega) (by simp [fup_at, hf.h7]) (by simp [fup_at]) ?_
        intro x hx
        have hfx : Lsl E n fb ac aa x := Lsl.keep (t := opsL (Ybaz.f19.body.bind (regAt 20))) (f := _) ⟨by simp [fup_at, hf.h0], by simp [fup_at, hf.h1], by simp [fup_at, hf.h2], by simp [fup_at, hf.h7], by simp [fup_at, hf.h11]⟩ hx (by kernel_rfl)
        have x101 : x 101 = .slice (some ⟨bb, bo, none⟩) n bc := (hx 101 (by omega) (by kernel_rfl)).trans (by simp [fup_at, h101])
        have x102 : x 102 = .int .i64 (n : Nat) := (hx 102 (by omega) (by kernel_rfl)).trans (by simp [fup_at, h102])
        have x103 : x 103 = .int .i64 (i : Nat) := (hx 103 (by omega) (by kernel_rfl)).trans (by simp [fup_at, h103])
        have x110 : x 110 = .slice (some ⟨sb, so, none⟩) 1 c := (hx 110 (by omega) (by kernel_rfl)).trans (by simp [fup_at, h110])
        have x111 : x 111 = .int .i64 1 := (hx 111 (by omega) (by kernel_rfl)).trans (by simp [fup_at, h111])
        have x112 : x 112 = .int .i64 0 := (hx 112 (by omega) (by kernel_rfl)).trans (by simp [fup_at, h112])
        obtain ⟨B3, hq3⟩ := hq.set (s' := sk sc (i + 1)) (t + 1) (cn sc i t + 1) (fun k hk => by
          by_cases e : k = t + 1
          · subst e; rw [upd_same]; unfold sk; rw [if_neg (by omega), Nat.add_sub_cancel]; simp [cn, hs]
          · rw [upd_other _ _ e]
            unfold sk
            split
            · rfl
            · have : ¬ sc i = some (k - 1) := fun e' => e (by rw [hs] at e'; cases e'; omega)
              simp [cn, this])
        rw [show ((cn sc i t + 1 : Nat) : Int) = ((cn sc i t : Nat) : Int) + 1 by omega] at hq3
        have HQ3 : Hid (Lq w0 (w2.drew.setCell ⟨E 2, t + 1, none⟩ (.int .i64 (((cn sc i t : Nat) : Int) + 1))) E B3 n D (sk sc (i + 1))) := hq3
        have HFX : Hid (Lsl E n fb ac aa x) := hfx
        refine HK3.out _ _ ?_
        clear HK3 hx hf HF HQ hq hq3 hfx k1 k3 kc h101 h102 h103 h110 h111 h112
        generalize w2.drew.setCell ⟨E 2, t + 1, none⟩ (.int .i64 (((cn sc i t : Nat) : Int) + 1)) = w3 at HQ3 ⊢
        go_wp2
        have hf := HFX.out
        exact HK4.out _ _ ⟨0, by omega, HJ2.out _ _ _ ⟨_, rfl, B3, 1, rfl, HQ3.out, ⟨by simp [fup_at, hf.h0], by simp [fup_at, hf.h1], by simp [fup_at, hf.h2], by simp [fup_at, hf.h7], by simp [fup_at, hf.h11]⟩, by simp [fup_at, x101], by simp [fup_at, x102], by simp [fup_at, x103], by simp [fup_at, x110], by simp [fup_at, x111], by simp [fup_at]⟩⟩
      · have hj1 : j = 1 := by omega
        subst hj1
        go_wp2
        refine HKa.out _ _ ?_
        clear HKa
        refine wp_seq_hid (fun Kb HKb => ?_)
        refine hF.cond (by omega) rfl (fun h0 => by cases h0) (fun h0 => ?_)
        clear h0 HKb
        go_wp2
        have hf := HF.out
        exact HEND.out _ _ B2 HQ.out ⟨by simp [fup_at, hf.h0], by simp [fup_at, hf.h1], by simp [fup_at, hf.h2], by simp [fup_at, hf.h7], by simp [fup_at, hf.h11]⟩ (by simp [fup_at, h101]) (by simp [fup_at, h102]) (by simp [fup_at, h103])
  · have hi : i = n := by
      have : ¬ i < n := by simpa using h0
      omega
    clear h0
    subst hi
    go_wp2
    refine HK.out _ _ ?_
    clear HK HK1 HJ HKb
    have hf := HF.out
    exact l23t hF (D := D) (aa := aa) (ac := ac) hC HQ.out hn hn1 ⟨by simp [fup_at, hf.h0], by simp [fup_at, hf.h1], by simp [fup_at, hf.h2], by simp [fup_at, hf.h7], by simp [fup_at, hf.h11]⟩ HR.out

end Go.Proofs.YbulkexmzaGreat
