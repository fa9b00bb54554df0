/-
  The law's check: a block that leads (regions 106 to 108), a block that is absorbed (regions 103 to 105).
-/
import Derived.Test.YbulkexmzaGreatWb
namespace Go.Proofs.YbulkexmzaGreat
open Go.RowKit
attribute [local go_sem] fup_at
theorem app_one (iv : Nat → Value) (m : Nat) (v : Value) : ∀ s u, [v][s]? = some u → u = upd iv m v (m + s) := fun s u hu => by
  match s, hu with
  | 0, hu =>
    simp at hu
    show u = upd iv m v m
    rw [upd_same]; exact hu.symm
/-- The three lists of the check, behind the first x blocks. -/
structure Lds (E : Lab → Nat) (B : Lab → Option Lb) (i : Nat) (d : Fd) (AB : Nat → Bool) (x : Nat) (lv ov nv : Value) (iv : Nat → Value) : Prop where
  l41 : ∃ cap, Slg E B (41, 0, 0, 0) 3 (gm AB x) cap (fun k u => u = .int .i64 (gd AB x k : Nat)) lv
  l42 : ∃ cap, Slg E B (42, 0, 0, 0) 3 (gm AB x) cap (fun k u => u = .int .i64 (en AB x (gd AB x k) : Nat)) ov
  l43 : ∃ cap, Slg E B (43, 0, 0, 0) 38 (gm AB x) cap (fun k u => u = iv k) nv
  l44 : ∀ k, k < gm AB x → ∃ cap, Slg E B (44, 0, k, 0) 50 (cat d.ki (gd AB x k) (en AB x (gd AB x k))).length cap (qi E i (cat d.ki (gd AB x k) (en AB x (gd AB x k)))) (iv k)
set_option maxHeartbeats 4000000 in
set_option maxRecDepth 100000 in
theorem c106 {F : (Nat → Value) → Act} (hF : Fr 559 F) {w0 w : World} {E : Lab → Nat} {B : Lab → Option Lb} {d : Fd} {i x : Nat} {AB : Nat → Bool} {Ds : Nat → Value} {lv ov nv : Value} {iv : Nat → Value} {f : Nat → Value} {Q : Exit → Act → World → Prop} (hd : Fdk d) (hx : x < d.n) (hab : AB x = false)
    (hS : Sg w0 w E B) (h3 : B (3, i, 0, 0) = some (vals 45 (d.n * 6) Ds)) (hsn : Snb E B i d Ds x) (hL : Lds E B i d AB x lv ov nv iv)
    (h36 : f 36 = .slice (some ⟨E (3, i, 0, 0), 0, none⟩) d.n d.n) (h41 : f 41 = lv) (h42 : f 42 = ov) (h43 : f 43 = nv) (h44 : f 44 = .int .i64 (x : Nat))
    (hQ : ∀ y w' E' B' lv' ov' nv' iv', (∀ s, s < 435 → s ≠ 41 → s ≠ 42 → s ≠ 43 → y s = f s) → Sg w0 w' E' B' → (∀ l : Lab, l.1 < 41 → E' l = E l) → (∀ l : Lab, l.1 < 41 → B' l = B l) → y 41 = lv' → y 42 = ov' → y 43 = nv' → Lds E' B' i d AB (x + 1) lv' ov' nv' iv' → Q .normal (F y) w') :
    (((Ybaz.f3.body.bind (regAt 106)).getD .skip).seq (((Ybaz.f3.body.bind (regAt 107)).getD .skip).seq ((Ybaz.f3.body.bind (regAt 108)).getD .skip))).wp Ybaz.prog Q (F f) w := by
  conv => arg 2; arg 1; whnf
  conv => arg 2; arg 2; arg 1; whnf
  conv => arg 2; arg 2; arg 2; whnf
  have hget := hF.get
  have hmk := hF.up
  have HQ : Hid _ := hQ
  have HD : Hid (Fdk d) := hd
  have HS : Hid (Sg w0 w E B) := hS
  have H3 : Hid (B (3, i, 0, 0) = some (vals 45 (d.n * 6) Ds)) := h3
  have HSN : Hid (Snb E B i d Ds x) := hsn
  have HL : Hid (Lds E B i d AB x lv ov nv iv) := hL
  have hnm := hd.nm
  have hml := gm_le (ab := AB) x
  obtain ⟨cap1, hl1⟩ := hL.l41
  obtain ⟨cap2, hl2⟩ := hL.l42
  have HL1 : Hid (Slg E B (41, 0, 0, 0) 3 (gm AB x) cap1 (fun k u => u = .int .i64 (gd AB x k : Nat)) lv) := hl1
  have HL2 : Hid (Slg E B (42, 0, 0, 0) 3 (gm AB x) cap2 (fun k u => u = .int .i64 (en AB x (gd AB x k) : Nat)) ov) := hl2
  clear hQ hd hS h3 hsn hL hl1 hl2
  have hgo : ∀ k, k < gm AB x → gd AB (x + 1) k = gd AB x k := fun k hk => gd_old hk
  have heo : ∀ j, en AB (x + 1) j = en AB x j := fun j => en_no (fun h => by rw [hab] at h; cases h.1)
  have hgn : gd AB (x + 1) (gm AB x) = x := gd_new hab
  have hen : en AB x x = x := en_self (by omega)
  have HG : Hid ((∀ k, k < gm AB x → gd AB (x + 1) k = gd AB x k) ∧ (∀ j, en AB (x + 1) j = en AB x j) ∧ gd AB (x + 1) (gm AB x) = x ∧ en AB x x = x ∧ gm AB (x + 1) = gm AB x + 1) := ⟨hgo, heo, hgn, hen, gm_no hab⟩
  clear hgo heo hgn hen
  have n1 : ∀ s u, [Value.int .i64 (x : Nat)][s]? = some u → u = Value.int .i64 (gd AB (x + 1) (gm AB x + s) : Nat) := fun s u hu => by
    match s, hu with
    | 0, hu =>
      simp at hu
      show u = Value.int .i64 (gd AB (x + 1) (gm AB x) : Nat)
      rw [HG.out.2.2.1]; exact hu.symm
  have n2 : ∀ s u, [Value.int .i64 (x : Nat)][s]? = some u → u = Value.int .i64 (en AB (x + 1) (gd AB (x + 1) (gm AB x + s)) : Nat) := fun s u hu => by
    match s, hu with
    | 0, hu =>
      simp at hu
      show u = Value.int .i64 (en AB (x + 1) (gd AB (x + 1) (gm AB x)) : Nat)
      rw [HG.out.2.2.1, HG.out.2.1, HG.out.2.2.2.1]; exact hu.symm
  refine wp_seq_hid (fun K HK => ?_)
  go_wp2_with (at_builtin; refine hF.appg ety3 rfl 448 450 451 rfl rfl (by omega) (by omega) HL1.out (HS.out.alloc _) (by rfl) _ 1 1 [.int .i64 (x : Nat)] (by rfl) rfl (fun _ => ⟨_, rfl, news1 _ _ _⟩) (by simp [Value.oneCell']) (by omega) (fun k u => u = .int .i64 (gd AB (x + 1) k : Nat)) (fun k u hk hu => by rw [HG.out.1 k hk]; exact hu) n1 (fun v' w' hap => ?_))
  refine HK.out _ _ ?_
  clear HK
  obtain ⟨E1, B1, hS1, hE1, hB1, cap1', hsl1⟩ := hap
  have HS1 : Hid (Sg w0 w' E1 B1) := hS1
  have HE1 : Hid (∀ l, l ≠ (41, 0, 0, 0) → E1 l = E l) := hE1
  have HB1 : Hid (∀ l, l ≠ (41, 0, 0, 0) → B1 l = B l) := hB1
  have HSL1 : Hid (Slg E1 B1 (41, 0, 0, 0) 3 (gm AB x + 1) cap1' (fun k u => u = .int .i64 (gd AB (x + 1) k : Nat)) v') := hsl1
  have HL2' : Hid (Slg E1 B1 (42, 0, 0, 0) 3 (gm AB x) cap2 (fun k u => u = .int .i64 (en AB x (gd AB x k) : Nat)) ov) := HL2.out.congr (hE1 _ (by simp)) (hB1 _ (by simp))
  obtain ⟨v1, hv1⟩ : ∃ v1, v1 = v' := ⟨_, rfl⟩
  rw [← hv1] at HSL1 ⊢
  clear hS1 hE1 hB1 hsl1 HL2 HL1 HS hv1
  refine wp_seq_hid (fun K HK => ?_)
  go_wp2_with (at_builtin; refine hF.appg ety3 rfl 452 454 455 rfl rfl (by omega) (by omega) HL2'.out (HS1.out.alloc _) (by rfl) _ 1 1 [.int .i64 (x : Nat)] (by rfl) rfl (fun _ => ⟨_, rfl, news1 _ _ _⟩) (by simp [Value.oneCell']) (by omega) (fun k u => u = .int .i64 (en AB (x + 1) (gd AB (x + 1) k) : Nat)) (fun k u hk hu => by rw [HG.out.1 k hk, HG.out.2.1]; exact hu) n2 (fun v2 w2 hap => ?_))
  refine HK.out _ _ ?_
  clear HK
  obtain ⟨E2, B2, hS2, hE2, hB2, cap2', hsl2⟩ := hap
  have HS2 : Hid (Sg w0 w2 E2 B2) := hS2
  have HE2 : Hid (∀ l, l ≠ (42, 0, 0, 0) → E2 l = E1 l) := hE2
  have HB2 : Hid (∀ l, l ≠ (42, 0, 0, 0) → B2 l = B1 l) := hB2
  have HSL2 : Hid (Slg E2 B2 (42, 0, 0, 0) 3 (gm AB x + 1) cap2' (fun k u => u = .int .i64 (en AB (x + 1) (gd AB (x + 1) k) : Nat)) v2) := hsl2
  obtain ⟨cap3, hl3⟩ := HL.out.l43
  have e2 : ∀ l : Lab, l.1 ≠ 41 → l.1 ≠ 42 → E2 l = E l := fun l h1 h2 => by rw [hE2 l (fun e => h2 (by rw [e])), HE1.out l (fun e => h1 (by rw [e]))]
  have b2 : ∀ l : Lab, l.1 ≠ 41 → l.1 ≠ 42 → B2 l = B l := fun l h1 h2 => by rw [hB2 l (fun e => h2 (by rw [e])), HB1.out l (fun e => h1 (by rw [e]))]
  have HEE : Hid (∀ l : Lab, l.1 ≠ 41 → l.1 ≠ 42 → E2 l = E l) := e2
  have HBB : Hid (∀ l : Lab, l.1 ≠ 41 → l.1 ≠ 42 → B2 l = B l) := b2
  have HL3 : Hid (Slg E2 B2 (43, 0, 0, 0) 38 (gm AB x) cap3 (fun k u => u = iv k) nv) := hl3.congr (e2 _ (by simp) (by simp)) (b2 _ (by simp) (by simp))
  obtain ⟨capi, hiv⟩ := HSN.out.iv
  obtain ⟨xa, xc, hDx, hxc, hxa⟩ := hiv.form
  have k3 := hS2.val ((b2 (3, i, 0, 0) (by simp) (by simp)).trans H3.out) (i := x * 6 + 1) (by omega)
  rw [e2 (3, i, 0, 0) (by simp) (by simp), hDx] at k3
  have hiv2 : Slg E2 B2 (13, i, x, 0) 50 (d.ki x) capi (qi E i (cat d.ki x x)) (.slice xa (d.ki x) xc) := by rw [← hDx]; exact hiv.congr (e2 _ (by simp) (by simp)) (b2 _ (by simp) (by simp))
  have e13 : E2 (13, i, x, 0) = E (13, i, x, 0) := e2 _ (by simp) (by simp)
  have hkil := HD.out.ki x
  have hnew : 0 < d.ki x → ∃ ad, xa = some ad ∧ ∀ s u, ((cat d.ki x x).map (xp E i))[s]? = some u → w2.cell? (ad.add s) = some u := fun hk0 => by
    refine ⟨_, hxa hk0, fun s u hu => ?_⟩
    rw [List.getElem?_map] at hu
    obtain ⟨bt, hb, rfl⟩ := Option.map_eq_some_iff.1 hu
    have hs : s < d.ki x := by have := (List.getElem?_eq_some_iff.1 hb).1; rwa [cat_one_len] at this
    obtain ⟨u', h1, ⟨bt', h2, h3⟩, _⟩ := hiv2.cell hS2 hs
    rw [hb] at h2
    cases h2
    rw [h3] at h1
    rw [add0, ← e13]; exact h1
  have hone : ∀ u ∈ (cat d.ki x x).map (xp E i), u.oneCell' = true := fun u hu => by
    obtain ⟨bt, _, rfl⟩ := List.mem_map.1 hu
    rfl
  have hz : ∀ s u, ((cat d.ki x x).map (xp E i))[s]? = some u → qi E i (cat d.ki x x) s u := fun s u hu => by
    rw [List.getElem?_map] at hu
    obtain ⟨bt, hb, rfl⟩ := Option.map_eq_some_iff.1 hu
    exact ⟨bt, hb, rfl⟩
  have hnl : ((cat d.ki x x).map (xp E i)).length = d.ki x := by rw [List.length_map, cat_one_len]
  clear hS2 hE2 hB2 hsl2 e2 b2 hl3 hiv hiv2 hDx HS1
  go_wp2_with (first | (at_builtin; refine hF.appc (44, 0, gm AB x, 0) ety38 rfl 461 462 rfl rfl (by omega) HS2.out _ (d.ki x) xc _ (by rfl) hnl hnew hone (by omega) (qi E i (cat d.ki x x)) hz (fun v3 w3 hap => ?_); obtain ⟨E3, B3, hS3, hE3, hB3, cap44, hsl3⟩ := hap; obtain ⟨va3, vc3, rfl, hvc3, hva3⟩ := hsl3.form) | (at_builtin; refine hF.appg ety61 rfl 456 463 464 rfl rfl (by omega) (by omega) (HL3.out.congr (hE3 _ (by simp)) (hB3 _ (by simp))) (hS3.alloc _) (by rfl) _ 1 1 [.slice va3 (d.ki x) vc3] (by rfl) rfl (fun _ => ⟨_, rfl, news1 _ _ _⟩) (by simp [Value.oneCell']) (by omega) (fun k u => u = upd iv (gm AB x) (.slice va3 (d.ki x) vc3) k) (fun k u hk hu => by rw [upd_other _ _ (by omega)]; exact hu) (app_one iv (gm AB x) _) (fun v4 w4 hap => ?_)))
  obtain ⟨E4, B4, hS4, hE4, hB4, cap43, hsl4⟩ := hap
  have ee : ∀ l : Lab, l.1 < 41 ∨ l.1 = 44 ∧ l.2.2.1 < gm AB x → E4 l = E l := fun l hl => by
    rw [hE4 l (fun e => by subst e; simp at hl), hE3 l (fun e => by subst e; simp at hl)]
    exact HEE.out l (by omega) (by omega)
  have be : ∀ l : Lab, l.1 < 41 ∨ l.1 = 44 ∧ l.2.2.1 < gm AB x → B4 l = B l := fun l hl => by
    rw [hB4 l (fun e => by subst e; simp at hl), hB3 l (fun e => by subst e; simp at hl)]
    exact HBB.out l (by omega) (by omega)
  have q20 : qi E4 i = qi E i := by
    funext l t u
    unfold qi xp
    have : ∀ a b, E4 (20, i, a, b) = E (20, i, a, b) := fun a b => ee _ (.inl (by simp))
    simp only [this]
  have hg := HG.out
  refine HQ.out _ w4 E4 B4 v1 v2 v4 (upd iv (gm AB x) (.slice va3 (d.ki x) vc3)) (fun s h1 h2 h3 h4 => ?_) hS4 (fun l hl => ee l (.inl hl)) (fun l hl => be l (.inl hl)) (by simp [fup_at]) (by simp [fup_at]) (by simp [fup_at]) ⟨⟨cap1', ?_⟩, ⟨cap2', ?_⟩, ⟨cap43, ?_⟩, fun k hk => ?_⟩
  · simp only [fup_at]; repeat rw [if_neg (by omega)]
  · rw [hg.2.2.2.2]
    exact HSL1.out.congr (by rw [hE4 _ (by simp), hE3 _ (by simp), HE2.out _ (by simp)]) (by rw [hB4 _ (by simp), hB3 _ (by simp), HB2.out _ (by simp)])
  · rw [hg.2.2.2.2]
    exact HSL2.out.congr (by rw [hE4 _ (by simp), hE3 _ (by simp)]) (by rw [hB4 _ (by simp), hB3 _ (by simp)])
  · rw [hg.2.2.2.2]
    exact hsl4
  · rw [hg.2.2.2.2] at hk
    rw [q20]
    by_cases e : k = gm AB x
    · subst e
      rw [upd_same, hg.2.2.1, hg.2.1, hg.2.2.2.1, cat_one_len]
      exact ⟨cap44, hsl3.congr (hE4 _ (by simp)) (hB4 _ (by simp))⟩
    · rw [upd_other _ _ e, hg.1 k (by omega), hg.2.1]
      obtain ⟨cap, h1⟩ := HL.out.l44 k (by omega)
      exact ⟨cap, h1.congr (ee _ (.inr ⟨rfl, by show k < _; omega⟩)) (be _ (.inr ⟨rfl, by show k < _; omega⟩))⟩
end Go.Proofs.YbulkexmzaGreat
