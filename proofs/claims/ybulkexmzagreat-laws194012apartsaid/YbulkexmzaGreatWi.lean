/-
  The law's check of all functions (regions 79 to 121).
-/
import Derived.Test.YbulkexmzaGreatWh
namespace Go.Proofs.YbulkexmzaGreat
open Go.RowKit
attribute [local go_sem] fup_at
set_option maxHeartbeats 4000000 in
set_option maxRecDepth 100000 in
theorem c81 {F : (Nat → Value) → Act} (hF : Fr 559 F) {X : Ain} (hX : Aok X) {w0 w : World} {ra : Option Addr} {rb ro rc : Nat} {ba : Nat → Option Addr} {bc bb bo : Nat → Nat} (hA : Arg w0 X ra rb ro ba bc bb bo) {E : Lab → Nat} {B : Lab → Option Lb} {al want : ByteArray} {fa : Option Addr} {fc : Nat} {i : Nat} {f : Nat → Value} {Q : Exit → Act → World → Prop} (hi : i < X.N)
    (hC : Chk w0 w E B X al want (.slice fa X.N fc))
    (h0 : f 0 = .slice ra X.N rc) (h10 : f 10 = .pointer (some ⟨E (0, 1, 0, 0), 0, none⟩)) (h11 : f 11 = .string want) (h12 : f 12 = .pointer (some ⟨E (0, 2, 0, 0), 0, none⟩)) (h13 : f 13 = .slice (some ⟨E (0, 3, 0, 0), 0, none⟩) X.N X.N) (h14 : f 14 = .slice (some ⟨E (0, 4, 0, 0), 0, none⟩) X.N X.N) (h15 : f 15 = .slice (some ⟨E (0, 5, 0, 0), 0, none⟩) X.N X.N) (h16 : f 16 = .slice (some ⟨E (0, 6, 0, 0), 0, none⟩) X.N X.N)
    (h32 : f 32 = .slice fa X.N fc) (h313 : f 313 = .int .i64 (i : Nat))
    (hQ : ∀ y w' E' B', (∀ s, s < 315 → s < 33 ∨ 49 < s → y s = f s) → Sg w0 w' E' B' → (∀ l : Lab, l.1 < 40 → E' l = E l) → (∀ l : Lab, l.1 < 40 → B' l = B l) → Q .normal (F y) w') :
    (hd1 ((Ybaz.f3.body.bind (codeAt 81)).getD .skip)).wp Ybaz.prog Q (F f) w := by
  conv => arg 2; whnf
  refine wp_block ?_
  have hget := hF.get
  have hmk := hF.up
  have HQ : Hid _ := hQ
  have HX : Hid (Aok X) := hX
  have HC : Hid (Chk w0 w E B X al want (.slice fa X.N fc)) := hC
  have hNm := hX.N
  have hPb := hX.P i
  have HA : Hid (Arg w0 X ra rb ro ba bc bb bo) := hA
  obtain rfl := hA.a (by omega)
  obtain ⟨Dp, v, cap, hg2, hp1, hp7, hpS⟩ := hC.g2
  obtain ⟨va, vc, rfl, hvc, hva⟩ := hpS.form
  obtain rfl := hva (by omega)
  have kp := hC.sg.val hg2 (i := 1) (by omega)
  rw [hp1] at kp
  have k7 : w.cell? ⟨E (0, 7, 0, 0), i, none⟩ = some (.pointer (some ⟨E (1, i, 0, 0), 0, none⟩)) := by
    obtain ⟨u, h1, h2, _⟩ := hpS.cell hC.sg hi
    rw [h1, h2]
  clear hQ hX hC hA hg2 hp1 hp7 hpS hva
  refine wp_seq_hid (fun K HK => ?_)
  go_wp2
  refine HK.out _ _ ?_
  clear HK
  refine wp_seq_hid (fun K HK => ?_)
  go_wp2
  refine HK.out _ _ ?_
  clear HK kp k7
  obtain ⟨fcap, hfS⟩ := HC.out.g8
  have hfa : fa = some ⟨E (0, 8, 0, 0), 0, none⟩ := by
    obtain ⟨a, c, h1, _, h2⟩ := hfS.form
    injection h1 with h1 _ _
    rw [h1]; exact h2 (by omega)
  have k8 : w.cell? ⟨E (0, 8, 0, 0), i, none⟩ = some (.pointer (some ⟨E (1, i, 0, 0), 0, none⟩)) := by
    obtain ⟨u, h1, h2, _⟩ := hfS.cell HC.out.sg hi
    rw [h1, h2]
  rw [hfa] at h32
  obtain ⟨rv, hg6, hrv⟩ := HC.out.g6
  have k6 := HC.out.sg.val hg6 hi
  rw [hrv i hi] at k6
  obtain ⟨bl, bcap, lb, hfn, _⟩ := (HC.out.dn i hi).fn
  obtain ⟨nf, Df, hnf, hfb, _, hf5, _⟩ := hfn.mem
  have kr := HC.out.sg.val hfb (i := 5) (by omega)
  rw [hf5] at kr
  have hq56 : ∀ w, (binOp .neq 56 (.pointer (some ⟨E (1, i, 0, 0), 0, none⟩)) (.pointer (some ⟨E (1, i, 0, 0), 0, none⟩))).run Ybaz.prog w = .ok (.bool false) w := fun w => nq56 w _
  clear hfS hg6 hrv hfn hfb hf5
  obtain ⟨p3, hp3⟩ : ∃ p3, p3 = X.P i % 3 := ⟨_, rfl⟩
  have hmodp : (X.P i : Int) % 3 = (p3 : Int) := by omega
  have hp33 : p3 < 3 := by omega
  have HP3 : Hid (p3 = X.P i % 3) := hp3
  clear hp3
  refine wp_seq_hid (fun K HK => ?_)
  have HNX : Hid (∀ z, (∀ s, s < 323 → s < 33 ∨ 49 < s → s ≠ 315 → s ≠ 316 → s ≠ 317 → s ≠ 318 → s ≠ 319 → s ≠ 320 → s ≠ 321 → s ≠ 322 → z s = f s) → z 33 = .int .i64 (i : Nat) → z 34 = .pointer (some ⟨E (1, i, 0, 0), 0, none⟩) → K (F z) w.drew) := by
    intro z hz z33 z34
    refine HK.out _ _ ?_
    clear HK
    have hC2 : Chk w0 w.drew E B X al want (.slice fa X.N fc) := HC.out.keep HC.out.sg.drew (fun _ _ => rfl) (fun _ _ => rfl)
    have z0 := (hz 0 (by omega) (by omega) (by omega) (by omega) (by omega) (by omega) (by omega) (by omega) (by omega) (by omega)).trans h0
    have z10 := (hz 10 (by omega) (by omega) (by omega) (by omega) (by omega) (by omega) (by omega) (by omega) (by omega) (by omega)).trans h10
    have z11 := (hz 11 (by omega) (by omega) (by omega) (by omega) (by omega) (by omega) (by omega) (by omega) (by omega) (by omega)).trans h11
    have z13 := (hz 13 (by omega) (by omega) (by omega) (by omega) (by omega) (by omega) (by omega) (by omega) (by omega) (by omega)).trans h13
    have z14 := (hz 14 (by omega) (by omega) (by omega) (by omega) (by omega) (by omega) (by omega) (by omega) (by omega) (by omega)).trans h14
    have z15 := (hz 15 (by omega) (by omega) (by omega) (by omega) (by omega) (by omega) (by omega) (by omega) (by omega) (by omega)).trans h15
    have HZ : Hid (∀ s, s < 315 → s < 33 ∨ 49 < s → z s = f s) := fun s h1 h2 => hz s (by omega) h2 (by omega) (by omega) (by omega) (by omega) (by omega) (by omega) (by omega) (by omega)
    have c0 := old_cell hC2.sg.since (HA.out.c0 i hi)
    have c1 := old_cell hC2.sg.since (HA.out.c1 i hi)
    have ks : w.drew.cell? ⟨E (0, 1, 0, 0), p3, none⟩ = some (.string (pkgn p3)) := by rw [hC2.sg.val hC2.g1 hp33, pkgs_at hp33]
    have HC2 : Hid (Chk w0 w.drew E B X al want (.slice fa X.N fc)) := hC2
    have hmt : X.pin.mt want i = (((pkgn p3).toList == want.toList) && !X.rs i) := by rw [HP3.out]; rfl
    have HMT : Hid (X.pin.mt want i = (((pkgn p3).toList == want.toList) && !X.rs i)) := hmt
    clear hC2 hz k6 kr hmt
    generalize w.drew = w2 at HC2 c0 c1 ks ⊢
    refine wp_seq_hid (fun K2 HK2 => ?_)
    have HN2 : Hid (∀ z', (∀ s, s < 340 → s ≠ 35 → z' s = z s) → z' 35 = .bool (X.pin.mt want i) → K2 (F z') w2) := by
      intro z' hz' z35
      refine HK2.out _ _ ?_
      clear HK2
      refine c86 hF HX.out (i := i) hi HC2.out ((hz' 13 (by omega) (by omega)).trans z13) ((hz' 14 (by omega) (by omega)).trans z14) ((hz' 15 (by omega) (by omega)).trans z15) ((hz' 33 (by omega) (by omega)).trans z33) ((hz' 34 (by omega) (by omega)).trans z34) z35 ?_
      intro y6 w6 E6 B6 hy6 hS6 hE6 hB6
      refine HQ.out y6 w6 E6 B6 (fun s h1 h2 => ?_) hS6 hE6 hB6
      rw [hy6 s (by omega) h2, hz' s (by omega) (by omega)]
      exact HZ.out s h1 h2
    clear HK2
    cases cs : (pkgn p3).toList == want.toList with
    | false =>
      rw [cs] at HMT
      go_wp2
      refine HN2.out _ (fun s h1 h2 => ?_) (by rw [HMT.out]; simp [fup_at])
      simp only [fup_at]; repeat rw [if_neg (by omega)]
    | true =>
      rw [cs] at HMT
      go_wp2
      refine HN2.out _ (fun s h1 h2 => ?_) (by rw [HMT.out]; simp [fup_at])
      simp only [fup_at]; repeat rw [if_neg (by omega)]
  clear HK
  cases hrs : X.rs i with
  | false =>
    have hr : X.pin.rv E i = .pointer none := by
      unfold Pin.rv
      exact if_neg (by show ¬ X.rs i = true; rw [hrs]; simp)
    rw [hr] at k6 kr
    refine wp_seq_hid (fun K2 HK2 => ?_)
    go_still (by kernel_rfl)
    refine HK2.out _ _ ?_
    clear HK2 k6 kr hq56 k8
    refine hF.cond (by omega) rfl (fun hh => by simp at hh) (fun hh => ?_)
    clear hh
    go_wp2
    refine HNX.out _ (fun s h1 h2 h3 h4 h5 h6 h7 h8 h9 h10 => ?_) (by simp [fup_at]) (by simp [fup_at])
    simp only [fup_at]; repeat rw [if_neg (by omega)]
  | true =>
    have hr : X.pin.rv E i = .pointer (some ⟨E (6, i, 0, 0), 0, none⟩) := by
      unfold Pin.rv
      exact if_pos hrs
    rw [hr] at k6 kr
    have hq50 : ∀ w, (binOp .neq 50 (.pointer (some ⟨E (6, i, 0, 0), 0, none⟩)) (.pointer (some ⟨E (6, i, 0, 0), 0, none⟩))).run Ybaz.prog w = .ok (.bool false) w := fun w => nq50 w _
    refine wp_seq_hid (fun K2 HK2 => ?_)
    go_still (by kernel_rfl)
    refine HK2.out _ _ ?_
    clear HK2 k6 kr hq56 hq50 k8
    refine hF.cond (by omega) rfl (fun hh => by simp at hh) (fun hh => ?_)
    clear hh
    go_wp2
    refine HNX.out _ (fun s h1 h2 h3 h4 h5 h6 h7 h8 h9 h10 => ?_) (by simp [fup_at]) (by simp [fup_at])
    simp only [fup_at]; repeat rw [if_neg (by omega)]
end Go.Proofs.YbulkexmzaGreat
