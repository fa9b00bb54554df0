/-
  The law's check: region 105.
-/
import Derived.Test.YbulkexmzaGreatRa
namespace Go.Proofs.YbulkexmzaGreat
open Go.RowKit
attribute [local go_sem] fup_at
set_option maxHeartbeats 4000000 in
set_option maxRecDepth 100000 in
theorem c105 {F : (Nat → Value) → Act} (hF : Fr 559 F) {w0 w : World} {E : Lab → Nat} {B : Lab → Option Lb} {lb : Lb} {i x n kk M c43 : Nat} {va xa : Option Addr} {len vc m c cap : Nat} {q q' : Nat → Value → Prop} {ns : List Value} {f : Nat → Value} {Q : Exit → Act → World → Prop}
    (hS : Sg w0 w E B) (hb : B (43, 0, 0, 0) = some lb) (hkc : kk < lb.n) (hkM : kk < M) (hxn : x < n) (k43 : w.cell? ⟨E (43, 0, 0, 0), kk, none⟩ = some (.slice va len vc)) (k3 : w.cell? ⟨E (3, i, 0, 0), x * 6 + 1, none⟩ = some (.slice xa m c)) (hSl : Slg E B (44, 0, kk, 0) 50 len cap q (.slice va len vc)) (h43 : f 43 = .slice (some ⟨E (43, 0, 0, 0), 0, none⟩) M c43) (h46 : f 46 = .int .i64 (kk : Nat)) (h36 : f 36 = .slice (some ⟨E (3, i, 0, 0), 0, none⟩) n n) (h44 : f 44 = .int .i64 (x : Nat))
    (hnl : ns.length = m) (hnew : 0 < m → ∃ ad, xa = some ad ∧ ∀ j u, ns[j]? = some u → w.cell? (ad.add j) = some u) (h1 : ∀ u ∈ ns, u.oneCell' = true) (hlen : len + m ≤ 100000000000) (hq : ∀ i u, i < len → q i u → q' i u) (hz : ∀ j u, ns[j]? = some u → q' (len + j) u)
    (hQ : ∀ y v' w1, (∀ s, s < 559 → wrF (opsL (Ybaz.f3.body.bind (regAt 105))) 0 s = none → y s = f s) → Apg w0 E B (44, 0, kk, 0) 50 (len + m) q' v' w1 → Q .normal (F y) (w1.setCell ⟨E (43, 0, 0, 0), kk, none⟩ v')) :
    ((Ybaz.f3.body.bind (regAt 105)).getD .skip).wp Ybaz.prog Q (F f) w := by
  conv => arg 2; whnf
  have HQ : Hid (∀ y v' w1, (∀ s, s < 559 → wrF (opsL (Ybaz.f3.body.bind (regAt 105))) 0 s = none → y s = f s) → Apg w0 E B (44, 0, kk, 0) 50 (len + m) q' v' w1 → Q .normal (F y) (w1.setCell ⟨E (43, 0, 0, 0), kk, none⟩ v')) := hQ
  have HS : Hid (Sg w0 w.drew E B) := hS.drew
  have hnew : 0 < m → ∃ ad, xa = some ad ∧ ∀ j u, ns[j]? = some u → w.drew.cell? (ad.add j) = some u := hnew
  have k43 : w.drew.cell? ⟨E (43, 0, 0, 0), kk, none⟩ = some (.slice va len vc) := k43
  have k3 : w.drew.cell? ⟨E (3, i, 0, 0), x * 6 + 1, none⟩ = some (.slice xa m c) := k3
  have HSl : Hid (Slg E B (44, 0, kk, 0) 50 len cap q (.slice va len vc)) := hSl
  clear hQ hS hSl
  obtain ⟨wd, hwd⟩ : ∃ wd, wd = w.drew := ⟨_, rfl⟩
  rw [← hwd] at HS hnew k43 k3
  refine region_frm hF (γ := Value) (fun op9 g => match op9 with
    | 0 => .slice (some ⟨E (43, 0, 0, 0), 0, none⟩) M c43
    | 1 => .int .i64 (kk : Nat)
    | 2 => .slice (some ⟨E (43, 0, 0, 0), 0, none⟩) M c43
    | 3 => .int .i64 (kk : Nat)
    | 4 => .pointer (some ⟨E (43, 0, 0, 0), kk, none⟩)
    | 5 => .slice va len vc
    | 6 => .slice (some ⟨E (3, i, 0, 0), 0, none⟩) n n
    | 7 => .int .i64 (x : Nat)
    | 8 => .pointer (some ⟨E (3, i, 0, 0), x * 6, none⟩)
    | 9 => .pointer (some ⟨E (3, i, 0, 0), x * 6 + 1, none⟩)
    | 10 => .slice xa m c
    | 11 => g
    | 12 => .pointer (some ⟨E (43, 0, 0, 0), kk, none⟩)
    | 13 => undef
    | _ => undef) (fun l g w' => (l 11 = false → w' = wd) ∧ (l 11 = true → l 13 = false → Apg w0 E B (44, 0, kk, 0) 50 (len + m) q' g w') ∧ (l 13 = true → ∃ w1, Apg w0 E B (44, 0, kk, 0) 50 (len + m) q' g w1 ∧ w' = w1.setCell ⟨E (43, 0, 0, 0), kk, none⟩ g)) undef (by kernel_rfl) (by kernel_rfl) ⟨fun _ => hwd.symm, fun h => (by cases h), fun h => (by cases h)⟩ ?_ ?_
  · refine ⟨?_, ?_, ?_, ?_, ?_, ?_, ?_, ?_, ?_, ?_, ?_, ?_, ?_, ?_, trivial⟩
    · intro l g a w' K hp hc hl hG hM hK
      have e43 : a.eval (.tmp 43) = .slice (some ⟨E (43, 0, 0, 0), 0, none⟩) M c43 := (hG.oldF hF 43 (by kernel_rfl) (by omega)).trans h43
      clear hc hp hG
      unfold Oper.wp; generalize a.eval = ρ at *; go_simp; exact hK g w' (fun _ _ => rfl) hM
    · intro l g a w' K hp hc hl hG hM hK
      have e46 : a.eval (.tmp 46) = .int .i64 (kk : Nat) := (hG.oldF hF 46 (by kernel_rfl) (by omega)).trans h46
      clear hc hp hG
      unfold Oper.wp; generalize a.eval = ρ at *; go_simp; exact hK g w' (fun _ _ => rfl) hM
    · intro l g a w' K hp hc hl hG hM hK
      have e43 : a.eval (.tmp 43) = .slice (some ⟨E (43, 0, 0, 0), 0, none⟩) M c43 := (hG.oldF hF 43 (by kernel_rfl) (by omega)).trans h43
      clear hc hp hG
      unfold Oper.wp; generalize a.eval = ρ at *; go_simp; exact hK g w' (fun _ _ => rfl) hM
    · intro l g a w' K hp hc hl hG hM hK
      have e46 : a.eval (.tmp 46) = .int .i64 (kk : Nat) := (hG.oldF hF 46 (by kernel_rfl) (by omega)).trans h46
      clear hc hp hG
      unfold Oper.wp; generalize a.eval = ρ at *; go_simp; exact hK g w' (fun _ _ => rfl) hM
    · intro l g a w' K hp hc hl hG hM hK
      have e437 : a.eval (.tmp 437) = .slice (some ⟨E (43, 0, 0, 0), 0, none⟩) M c43 := hG.of 437 2 (by kernel_rfl) (preAt hc 14 _ hp (by kernel_rfl))
      have e438 : a.eval (.tmp 438) = .int .i64 (kk : Nat) := hG.of 438 3 (by kernel_rfl) (preAt hc 14 _ hp (by kernel_rfl))
      clear hc hp hG
      unfold Oper.wp; generalize a.eval = ρ at *; go_simp; exact hK g w' (fun _ _ => rfl) hM
    · intro l g a w' K hp hc hl hG hM hK
      have e439 : a.eval (.tmp 439) = .pointer (some ⟨E (43, 0, 0, 0), kk, none⟩) := hG.of 439 4 (by kernel_rfl) (preAt hc 14 _ hp (by kernel_rfl))
      have kk9 := hM.1 (hc.not 11 14 hl (by kernel_rfl))
      subst kk9
      clear hwd
      clear hc hp hG
      unfold Oper.wp; generalize a.eval = ρ at *; go_simp; exact hK g w' (fun _ _ => rfl) hM
    · intro l g a w' K hp hc hl hG hM hK
      have e36 : a.eval (.tmp 36) = .slice (some ⟨E (3, i, 0, 0), 0, none⟩) n n := (hG.oldF hF 36 (by kernel_rfl) (by omega)).trans h36
      clear hc hp hG
      unfold Oper.wp; generalize a.eval = ρ at *; go_simp; exact hK g w' (fun _ _ => rfl) hM
    · intro l g a w' K hp hc hl hG hM hK
      have e44 : a.eval (.tmp 44) = .int .i64 (x : Nat) := (hG.oldF hF 44 (by kernel_rfl) (by omega)).trans h44
      clear hc hp hG
      unfold Oper.wp; generalize a.eval = ρ at *; go_simp; exact hK g w' (fun _ _ => rfl) hM
    · intro l g a w' K hp hc hl hG hM hK
      have e441 : a.eval (.tmp 441) = .slice (some ⟨E (3, i, 0, 0), 0, none⟩) n n := hG.of 441 6 (by kernel_rfl) (preAt hc 14 _ hp (by kernel_rfl))
      have e442 : a.eval (.tmp 442) = .int .i64 (x : Nat) := hG.of 442 7 (by kernel_rfl) (preAt hc 14 _ hp (by kernel_rfl))
      clear hc hp hG
      unfold Oper.wp; generalize a.eval = ρ at *; go_simp; exact hK g w' (fun _ _ => rfl) hM
    · intro l g a w' K hp hc hl hG hM hK
      have e443 : a.eval (.tmp 443) = .pointer (some ⟨E (3, i, 0, 0), x * 6, none⟩) := hG.of 443 8 (by kernel_rfl) (preAt hc 14 _ hp (by kernel_rfl))
      clear hc hp hG
      unfold Oper.wp; generalize a.eval = ρ at *; go_simp; exact hK g w' (fun _ _ => rfl) hM
    · intro l g a w' K hp hc hl hG hM hK
      have e444 : a.eval (.tmp 444) = .pointer (some ⟨E (3, i, 0, 0), x * 6 + 1, none⟩) := hG.of 444 9 (by kernel_rfl) (preAt hc 14 _ hp (by kernel_rfl))
      have kk9 := hM.1 (hc.not 11 14 hl (by kernel_rfl))
      subst kk9
      clear hwd
      clear hc hp hG
      unfold Oper.wp; generalize a.eval = ρ at *; go_simp; exact hK g w' (fun _ _ => rfl) hM
    · intro l g a w' K hp hc hl hG hM hK
      have e440 : a.eval (.tmp 440) = .slice va len vc := hG.of 440 5 (by kernel_rfl) (preAt hc 14 _ hp (by kernel_rfl))
      have e445 : a.eval (.tmp 445) = .slice xa m c := hG.of 445 10 (by kernel_rfl) (preAt hc 14 _ hp (by kernel_rfl))
      have kk9 := hM.1 hl
      subst kk9
      have h12 : l 13 = false := hc.not 13 14 hl (by kernel_rfl)
      refine HSl.out.wp ety38 (.tmp 440) (.tmp 445) rfl HS.out e440 xa m c ns e445 hnl hnew h1 hlen q' hq hz (fun v' w' hap => ?_)
      refine hK v' w' (fun i hi => by
              match i, hi with
              | 0, _ => rfl
              | 1, _ => rfl
              | 2, _ => rfl
              | 3, _ => rfl
              | 4, _ => rfl
              | 5, _ => rfl
              | 6, _ => rfl
              | 7, _ => rfl
              | 8, _ => rfl
              | 9, _ => rfl
              | 10, _ => rfl
              | 11, hi => exact absurd hi (by rw [hl]; decide)
              | 12, _ => rfl
              | 13, _ => rfl
              | _ + 14, _ => rfl) ⟨fun h => (by cases h), fun _ _ => hap, fun h => ?_⟩
      have h' : l 13 = true := h
      rw [h12] at h'
      cases h'
    · intro l g a w' K hp hc hl hG hM hK
      have e435 : a.eval (.tmp 435) = .slice (some ⟨E (43, 0, 0, 0), 0, none⟩) M c43 := hG.of 435 0 (by kernel_rfl) (preAt hc 14 _ hp (by kernel_rfl))
      have e436 : a.eval (.tmp 436) = .int .i64 (kk : Nat) := hG.of 436 1 (by kernel_rfl) (preAt hc 14 _ hp (by kernel_rfl))
      clear hc hp hG
      unfold Oper.wp; generalize a.eval = ρ at *; go_simp; exact hK g w' (fun _ _ => rfl) hM
    · intro l g a w' K hp hc hl hG hM hK
      have e447 : a.eval (.tmp 447) = .pointer (some ⟨E (43, 0, 0, 0), kk, none⟩) := hG.of 447 12 (by kernel_rfl) (preAt hc 14 _ hp (by kernel_rfl))
      have e446 : a.eval (.tmp 446) = g := hG.of 446 11 (by kernel_rfl) (preAt hc 14 _ hp (by kernel_rfl))
      have h9 : l 11 = true := preAt hc 14 _ hp (by kernel_rfl)
      have hap := hM.2.1 h9 hl
      obtain ⟨E', B', hS', hE', hB', cap', hsl'⟩ := hap
      obtain ⟨ga, gc, rfl, _, _⟩ := hsl'.form
      have hb' := (hB' (43, 0, 0, 0) (by simp)).trans hb
      have kf : w'.frozen? ⟨E (43, 0, 0, 0), kk, none⟩ = false := by rw [← hE' (43, 0, 0, 0) (by simp)]; exact hS'.frz hb' kk
      obtain ⟨u, kv, _⟩ := hS'.read hb' (i := kk) hkc
      rw [hE' (43, 0, 0, 0) (by simp)] at kv
      have fin := hK (.slice ga (len + m) gc) (w'.setCell ⟨E (43, 0, 0, 0), kk, none⟩ (.slice ga (len + m) gc)) (fun _ _ => rfl) ⟨fun h => (by have : l 11 = false := h; rw [h9] at this; cases this), fun _ h => (by cases h), fun _ => ⟨w', ⟨E', B', hS', hE', hB', cap', hsl'⟩, rfl⟩⟩
      clear hK hc hp hG hM hS' hsl'
      unfold Oper.wp; generalize a.eval = ρ at *; go_simp; exact fin
  · intro l g x w' hl hv ho hM
    obtain ⟨w1, hap, rfl⟩ := hM.2.2 (hl 13 (show 13 < 14 by omega))
    exact HQ.out _ g w1 (fun s hs hw => ho s hs hw) hap
end Go.Proofs.YbulkexmzaGreat
