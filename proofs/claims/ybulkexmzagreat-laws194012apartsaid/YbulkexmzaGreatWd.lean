/-
  The law's check: a block that is absorbed (regions 103 to 105).
-/
import Derived.Test.YbulkexmzaGreatWc
namespace Go.Proofs.YbulkexmzaGreat
open Go.RowKit
attribute [local go_sem] fup_at
set_option maxRecDepth 100000 in
theorem wr105 {s : Nat} (hs : s < 428) : wrF (opsL (Ybaz.f3.body.bind (regAt 105))) 0 s = none := by
  have h : (List.range 428).all (fun s => (wrF (opsL (Ybaz.f3.body.bind (regAt 105))) 0 s).isNone) = true := by kernel_rfl
  have := List.all_eq_true.1 h s (List.mem_range.2 hs)
  simpa using this
set_option maxHeartbeats 4000000 in
set_option maxRecDepth 100000 in
theorem c103 {F : (Nat → Value) → Act} (hF : Fr 559 F) {w0 w : World} {E : Lab → Nat} {B : Lab → Option Lb} {d : Fd} {i x : Nat} {AB : Nat → Bool} {Ds : Nat → Value} {lv ov nv : Value} {iv : Nat → Value} {f : Nat → Value} {Q : Exit → Act → World → Prop} (hd : Fdk d) (hx : x < d.n) (hA0 : AB 0 = false) (hab : AB x = true)
    (hS : Sg w0 w E B) (h3 : B (3, i, 0, 0) = some (vals 45 (d.n * 6) Ds)) (hsn : Snb E B i d Ds x) (hL : Lds E B i d AB x lv ov nv iv)
    (h36 : f 36 = .slice (some ⟨E (3, i, 0, 0), 0, none⟩) d.n d.n) (h41 : f 41 = lv) (h42 : f 42 = ov) (h43 : f 43 = nv) (h44 : f 44 = .int .i64 (x : Nat))
    (hQ : ∀ y w' E' B' lv' ov' nv' iv', (∀ s, s < 428 → s ≠ 41 → s ≠ 42 → s ≠ 43 → s ≠ 46 → y s = f s) → Sg w0 w' E' B' → (∀ l : Lab, l.1 < 41 → E' l = E l) → (∀ l : Lab, l.1 < 41 → B' l = B l) → y 41 = lv' → y 42 = ov' → y 43 = nv' → Lds E' B' i d AB (x + 1) lv' ov' nv' iv' → Q .normal (F y) w') :
    (((Ybaz.f3.body.bind (regAt 103)).getD .skip).seq (((Ybaz.f3.body.bind (regAt 104)).getD .skip).seq ((Ybaz.f3.body.bind (regAt 105)).getD .skip))).wp Ybaz.prog Q (F f) w := by
  conv => arg 2; arg 1; whnf
  conv => arg 2; arg 2; arg 1; whnf
  have hget := hF.get
  have hmk := hF.up
  have HQ : Hid _ := hQ
  have HD : Hid (Fdk d) := hd
  have HS : Hid (Sg w0 w E B) := hS
  have H3 : Hid (B (3, i, 0, 0) = some (vals 45 (d.n * 6) Ds)) := h3
  have HSN : Hid (Snb E B i d Ds x) := hsn
  have HL : Hid (Lds E B i d AB x lv ov nv iv) := hL
  have hnm := hd.nm
  have hml := gm_le (ab := AB) x
  have hx0 : 0 < x := by
    rcases Nat.eq_zero_or_pos x with e | e
    · subst e; rw [hA0] at hab; cases hab
    · exact e
  have hmp := gm_pos hA0 hx0
  have hla := en_last hA0 hx0
  obtain ⟨m, hm⟩ : ∃ m, m = gm AB x := ⟨_, rfl⟩
  obtain ⟨kk, hkk⟩ : ∃ kk, kk = m - 1 := ⟨_, rfl⟩
  rw [← hm] at hmp hml hla
  rw [← hkk] at hla
  obtain ⟨cap1, hl1⟩ := hL.l41
  obtain ⟨cap2, hl2⟩ := hL.l42
  obtain ⟨cap3, hl3⟩ := hL.l43
  obtain ⟨cap4, hl4⟩ := hL.l44 kk (by omega)
  rw [← hm] at hl1 hl2 hl3
  obtain ⟨la, lc, rfl, hlc, hla1⟩ := hl1.form
  obtain ⟨rfl, hb42, hc2, hmx2⟩ : ov = .slice (some ⟨E (42, 0, 0, 0), 0, none⟩) m cap2 ∧ B (42, 0, 0, 0) = some (gl 3 1 m cap2 (fun k u => u = .int .i64 (en AB x (gd AB x k) : Nat))) ∧ m ≤ cap2 ∧ cap2 ≤ maxLen := by
    rcases hl2 with ⟨_, h⟩ | h
    · omega
    · exact h
  obtain ⟨rfl, hb43, hc3, hmx3⟩ : nv = .slice (some ⟨E (43, 0, 0, 0), 0, none⟩) m cap3 ∧ B (43, 0, 0, 0) = some (gl 38 1 m cap3 (fun k u => u = iv k)) ∧ m ≤ cap3 ∧ cap3 ≤ maxLen := by
    rcases hl3 with ⟨_, h⟩ | h
    · omega
    · exact h
  have hkm : kk < m := by omega
  have hw : IntKind.i64.wrap ((m : Int) - 1) = (kk : Int) := by rw [IntKind.wrap_i64] <;> omega
  have HLA : Hid (en AB x (gd AB x kk) + 1 = x) := hla
  have HM : Hid (m = gm AB x ∧ kk = m - 1 ∧ cap2 ≤ maxLen ∧ cap3 ≤ maxLen) := ⟨hm, hkk, hmx2, hmx3⟩
  have HL1 : Hid (Slg E B (41, 0, 0, 0) 3 m cap1 (fun k u => u = .int .i64 (gd AB x k : Nat)) (.slice la m lc)) := hl1
  have HB42 : Hid (B (42, 0, 0, 0) = some (gl 3 1 m cap2 (fun k u => u = .int .i64 (en AB x (gd AB x k) : Nat)))) := hb42
  have HB43 : Hid (B (43, 0, 0, 0) = some (gl 38 1 m cap3 (fun k u => u = iv k))) := hb43
  have HL4 : Hid (Slg E B (44, 0, kk, 0) 50 (cat d.ki (gd AB x kk) (en AB x (gd AB x kk))).length cap4 (qi E i (cat d.ki (gd AB x kk) (en AB x (gd AB x kk)))) (iv kk)) := hl4
  clear hQ hd hS h3 hsn hL hl1 hl3 hl2 hl4 hb42 hb43 hm hkk hla hmx2 hmx3
  refine wp_seq_hid (fun K HK => ?_)
  go_wp2
  refine HK.out _ _ ?_
  clear HK
  obtain ⟨u2, k2, _⟩ := HS.out.read HB42.out (i := kk) (by show kk < cap2 * 1; omega)
  have k2f := HS.out.frz HB42.out kk
  have HS1 : Hid (Sg w0 (w.setCell ⟨E (42, 0, 0, 0), kk, none⟩ (.int .i64 (x : Nat))) E (lup B (42, 0, 0, 0) (some (gl 3 1 m cap2 (fun k u => u = .int .i64 ((if k = kk then x else en AB x (gd AB x k) : Nat) : Int)))))) := by
    refine HS.out.set HB42.out (gl 3 1 m cap2 (fun k u => u = .int .i64 ((if k = kk then x else en AB x (gd AB x k) : Nat) : Int))) rfl rfl (fun _ => by dsimp only; rw [if_pos rfl]) (fun j u hj hjn hu hlt => ?_)
    dsimp only
    rw [if_neg hj]
    exact hu hlt
  refine wp_seq_hid (fun K HK => ?_)
  go_wp2
  refine HK.out _ _ ?_
  clear HK k2 k2f
  generalize w.setCell ⟨E (42, 0, 0, 0), kk, none⟩ (.int .i64 (x : Nat)) = w1 at HS1 ⊢
  obtain ⟨B1, hB1⟩ : ∃ B1, B1 = lup B (42, 0, 0, 0) (some (gl 3 1 m cap2 (fun k u => u = .int .i64 ((if k = kk then x else en AB x (gd AB x k) : Nat) : Int)))) := ⟨_, rfl⟩
  rw [← hB1] at HS1
  have HB1 : Hid (∀ l : Lab, l ≠ (42, 0, 0, 0) → B1 l = B l) := fun l hl => by rw [hB1, lup_other _ _ hl]
  have HB142 : Hid (B1 (42, 0, 0, 0) = some (gl 3 1 m cap2 (fun k u => u = .int .i64 ((if k = kk then x else en AB x (gd AB x k) : Nat) : Int)))) := by rw [hB1]; exact lup_same _ _ _
  clear hB1 HS
  obtain ⟨va, vc, hivf, hvc, hva⟩ := HL4.out.form
  obtain ⟨capi, hsi⟩ := HSN.out.iv
  obtain ⟨xa, xc, hDx, hxc, hxa⟩ := hsi.form
  have hsi2 : Slg E B1 (13, i, x, 0) 50 (d.ki x) capi (qi E i (cat d.ki x x)) (.slice xa (d.ki x) xc) := by rw [← hDx]; exact hsi.congr rfl (HB1.out _ (by simp))
  have b43 : B1 (43, 0, 0, 0) = some (gl 38 1 m cap3 (fun k u => u = iv k)) := (HB1.out _ (by simp)).trans HB43.out
  have k43 : w1.cell? ⟨E (43, 0, 0, 0), kk, none⟩ = some (.slice va (cat d.ki (gd AB x kk) (en AB x (gd AB x kk))).length vc) := by
    obtain ⟨u, h1, h2⟩ := HS1.out.read b43 (i := kk) (by show kk < cap3 * 1; omega)
    rw [h1, h2 (by omega), hivf]
  have k3 : w1.cell? ⟨E (3, i, 0, 0), x * 6 + 1, none⟩ = some (.slice xa (d.ki x) xc) := by
    have := HS1.out.val ((HB1.out (3, i, 0, 0) (by simp)).trans H3.out) (i := x * 6 + 1) (by omega)
    rwa [hDx] at this
  have hkil := HD.out.ki x
  have hnew : 0 < d.ki x → ∃ ad, xa = some ad ∧ ∀ s u, ((cat d.ki x x).map (xp E i))[s]? = some u → w1.cell? (ad.add s) = some u := fun hk0 => by
    refine ⟨_, hxa hk0, fun s u hu => ?_⟩
    rw [List.getElem?_map] at hu
    obtain ⟨bt, hb, rfl⟩ := Option.map_eq_some_iff.1 hu
    have hs : s < d.ki x := by have := (List.getElem?_eq_some_iff.1 hb).1; rwa [cat_one_len] at this
    obtain ⟨u', h1, ⟨bt', h2, h3⟩, _⟩ := hsi2.cell HS1.out hs
    rw [hb] at h2
    cases h2
    rw [h3] at h1
    rw [add0]; exact h1
  have hone : ∀ u ∈ (cat d.ki x x).map (xp E i), u.oneCell' = true := fun u hu => by
    obtain ⟨bt, _, rfl⟩ := List.mem_map.1 hu
    rfl
  have hnl : ((cat d.ki x x).map (xp E i)).length = d.ki x := by rw [List.length_map, cat_one_len]
  have hgk := gd_lt (ab := AB) (x := x) (k := kk) (by rw [← HM.out.1]; exact hkm)
  have hge := en_ge (ab := AB) x (gd AB x kk)
  have hcs : cat d.ki (gd AB x kk) x = cat d.ki (gd AB x kk) (en AB x (gd AB x kk)) ++ cat d.ki x x := by
    have h1 := cat_succ d.ki hge
    rw [HLA.out] at h1
    exact h1
  obtain ⟨hqo, hqn⟩ := qi_app (cat d.ki (gd AB x kk) (en AB x (gd AB x kk))) (cat d.ki x x) E i
  rw [← hcs] at hqo hqn
  have hcl := cat_len d.ki HD.out.ki hge
  have hla' := HLA.out
  have hsl4 : Slg E B1 (44, 0, kk, 0) 50 (cat d.ki (gd AB x kk) (en AB x (gd AB x kk))).length cap4 (qi E i (cat d.ki (gd AB x kk) (en AB x (gd AB x kk)))) (.slice va (cat d.ki (gd AB x kk) (en AB x (gd AB x kk))).length vc) := by
    rw [← hivf]; exact HL4.out.congr rfl (HB1.out _ (by simp))
  refine c105 hF (i := i) (x := x) (n := d.n) (kk := kk) (M := m) (c43 := cap3) (q' := qi E i (cat d.ki (gd AB x kk) x)) HS1.out b43 (by show kk < cap3 * 1; omega) hkm hx k43 k3 hsl4 (by simp [fup_at, h43]) (by simp [fup_at]) (by simp [fup_at, h36]) (by simp [fup_at, h44]) hnl hnew hone (by omega) hqo hqn ?_
  intro y v' w2 hy hap
  obtain ⟨E2, B2, hS2, hE2, hB2, cap5, hsl5⟩ := hap
  have b43' := (hB2 (43, 0, 0, 0) (by simp)).trans b43
  have e43 : E2 (43, 0, 0, 0) = E (43, 0, 0, 0) := hE2 _ (by simp)
  have hS3 : Sg w0 (w2.setCell ⟨E (43, 0, 0, 0), kk, none⟩ v') E2 (lup B2 (43, 0, 0, 0) (some (gl 38 1 m cap3 (fun k u => u = upd iv kk v' k)))) := by
    rw [← e43]
    refine hS2.set b43' (gl 38 1 m cap3 (fun k u => u = upd iv kk v' k)) rfl rfl (fun _ => by dsimp only; rw [upd_same]) (fun j u hj hjn hu hlt => ?_)
    dsimp only
    rw [upd_other _ _ hj]
    exact hu hlt
  have ee : ∀ l : Lab, l ≠ (44, 0, kk, 0) → E2 l = E l := hE2
  have be : ∀ l : Lab, l ≠ (44, 0, kk, 0) → l ≠ (43, 0, 0, 0) → l ≠ (42, 0, 0, 0) → lup B2 (43, 0, 0, 0) (some (gl 38 1 m cap3 (fun k u => u = upd iv kk v' k))) l = B l := fun l h1 h2 h3 => by
    rw [lup_other _ _ h2, hB2 l h1]; exact HB1.out l h3
  have q20 : qi E2 i = qi E i := by
    funext l t u
    unfold qi xp
    have : ∀ a b, E2 (20, i, a, b) = E (20, i, a, b) := fun a b => ee _ (by simp)
    simp only [this]
  have hgm : gm AB (x + 1) = m := by rw [gm_yes hab]; exact HM.out.1.symm
  have hgo : ∀ k, k < m → gd AB (x + 1) k = gd AB x k := fun k hk => gd_old (by rw [← HM.out.1]; exact hk)
  have heo : ∀ k, k < m → en AB (x + 1) (gd AB x k) = if k = kk then x else en AB x (gd AB x k) := fun k hk => by
    by_cases e : k = kk
    · rw [if_pos e, e]; exact en_yes hab hla'
    · rw [if_neg e]
      have := HM.out.2.1
      exact en_old hA0 (by rw [← HM.out.1]; omega)
  refine HQ.out y _ E2 _ (.slice la m lc) (.slice (some ⟨E2 (42, 0, 0, 0), 0, none⟩) m cap2) (.slice (some ⟨E2 (43, 0, 0, 0), 0, none⟩) m cap3) (upd iv kk v') (fun s h1 h2 h3 h4 h5 => ?_) hS3 (fun l hl => ee l (fun e => by subst e; simp at hl)) (fun l hl => be l (fun e => by subst e; simp at hl) (fun e => by subst e; simp at hl) (fun e => by subst e; simp at hl)) ?_ ?_ ?_ ⟨⟨cap1, ?_⟩, ⟨cap2, ?_⟩, ⟨cap3, ?_⟩, fun k hk => ?_⟩
  · rw [hy s (by omega) (wr105 h1)]
    simp only [fup_at]; repeat rw [if_neg (by omega)]
  · rw [hy 41 (by omega) (by kernel_rfl)]; simp [fup_at, h41]
  · rw [hy 42 (by omega) (by kernel_rfl), ee _ (by simp)]; simp [fup_at, h42]
  · rw [hy 43 (by omega) (by kernel_rfl), ee _ (by simp)]; simp [fup_at, h43]
  · rw [hgm]
    refine (HL1.out.congr (ee _ (by simp)) (be _ (by simp) (by simp) (by simp))).qcongr (fun k u hk => ?_)
    rw [hgo k hk]
  · rw [hgm]
    refine .inr ⟨rfl, ?_, hc2, HM.out.2.2.1⟩
    rw [lup_other _ _ (by simp), hB2 _ (by simp), HB142.out]
    refine congrArg some (gl_congr (fun k u hk => ?_))
    rw [hgo k hk, heo k hk]
  · rw [hgm]
    exact .inr ⟨rfl, lup_same _ _ _, hc3, HM.out.2.2.2⟩
  · rw [hgm] at hk
    rw [hgo k hk, heo k hk, q20]
    by_cases e : k = kk
    · subst e
      rw [if_pos rfl, upd_same]
      refine ⟨cap5, ?_⟩
      rw [show (cat d.ki (gd AB x k) x).length = (cat d.ki (gd AB x k) (en AB x (gd AB x k))).length + d.ki x by rw [hcs, List.length_append, cat_one_len]]
      exact hsl5.congr rfl (lup_other _ _ (by simp))
    · rw [if_neg e, upd_other _ _ e]
      obtain ⟨cap, h1⟩ := HL.out.l44 k (by rw [← HM.out.1]; exact hk)
      have n4 : ((44, 0, k, 0) : Lab) ≠ (44, 0, kk, 0) := fun h => e (lab4 h).2.2.1
      exact ⟨cap, h1.congr (ee _ n4) (be _ n4 (by simp) (by simp))⟩
end Go.Proofs.YbulkexmzaGreat
