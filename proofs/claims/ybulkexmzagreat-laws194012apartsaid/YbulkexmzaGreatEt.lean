/-
  eval (59): from region 8 on.
-/
import Derived.Test.YbulkexmzaGreatEr
namespace Go.Proofs.YbulkexmzaGreat
open Go.RowKit Go.Shelf

attribute [local go_sem] Oper.semAt_some

theorem St.less {w0 w : World} {K : Nat} {E : Nat → Nat} {B : Nat → Lb} (h : St w0 w K E B) {K' : Nat} (hK : K' ≤ K) : St w0 w K' E B :=
  ⟨h.since, fun k hk => h.row k (by omega), fun k hk => h.base k (by omega), fun i j hi hj => h.inj i j (by omega) (by omega)⟩
theorem St.congr {w0 w : World} {K : Nat} {E E' : Nat → Nat} {B B' : Nat → Lb} (h : St w0 w K E B) (he : ∀ k, k < K → E' k = E k) (hb : ∀ k, k < K → B' k = B k) : St w0 w K E' B' :=
  ⟨h.since, fun k hk => by rw [he k hk, hb k hk]; exact h.row k hk, fun k hk => by rw [he k hk]; exact h.base k hk, fun i j hi hj e => h.inj i j hi hj (by rw [he i hi, he j hj] at e; exact e)⟩
theorem upd_upd {α : Type} (f : Nat → α) (k : Nat) (x y : α) : upd (upd f k x) k y = upd f k y := by
  funext i
  by_cases h1 : i = k <;> simp [upd, h1]

set_option maxHeartbeats 4000000 in
set_option maxRecDepth 100000 in
theorem eval_tail {c5 c6 c7 c8 c9 c10 c11 c12 c13 c14 c15 c16 c17 c18 c19 c20 c21 c22 c23 c24 c25 c26 c27 c28 c29 c30 c31 c32 c33 c34 c35 c36 c37 c38 c39 c40 c41 c42 c43 c44 c45 c46 c47 c48 c49 c50 c51 c52 c53 c54 c55 c56 c57 c58 c59 c60 c61 c62 c63 c64 c65 c66 c67 c68 c69 c70 c71 c72 c73 c74 c75 c76 : Value} {w0 w2 : World} {E : Nat → Nat} {B : Nat → Lb} {m v : Nat} {f : Nat → Int} {ps : List Nat} {R : Ending → World → Prop} (hm : m ≤ 100001) (hv : v < m) (h : Ep w0 w2 E B m f ps) (hT : ∀ y ∈ ps, y < m ∧ 0 ≤ f y ∧ 0 ≤ f (f y).toNat) (hnd : ps.Nodup)
    (hR : ∀ (u : Nat) (B' : Nat → Lb) (w' : World), u < m → (∀ k, k ≠ 20 → k ≠ 21 → B' k = B k) → Ev w0 w' E B' m → R (.returned (.int .i64 (u : Nat))) w') :
    ((Ybaz.f59.body.bind (codeAt 8)).getD .skip).wp Ybaz.prog (bodyPostM Fence.wide 9 Ybaz.prog Ybaz.f59 R) ⟨#[.int .i64 (v : Nat), .pointer (some ⟨E 16, 0, none⟩), .pointer (some ⟨E 17, 0, none⟩), .pointer (some ⟨E 14, 0, none⟩), .pointer (some ⟨E 15, 0, none⟩), c5, c6, c7, c8, c9, c10, c11, c12, c13, c14, c15, c16, c17, c18, c19, c20, c21, c22, c23, c24, c25, c26, c27, c28, c29, c30, c31, c32, c33, c34, c35, c36, c37, c38, c39, c40, c41, c42, c43, c44, c45, c46, c47, c48, c49, c50, c51, c52, c53, c54, c55, c56, c57, c58, c59, c60, c61, c62, c63, c64, c65, c66, c67, c68, c69, c70, c71, c72, c73, c74, c75, c76], []⟩ w2 := by
  conv => arg 2; whnf
  obtain ⟨pv, cap, hb17, hSl⟩ := h.b17
  obtain ⟨pa, pc, rfl, hpa⟩ := hSl.form
  have k17 := h.st.box (k := 17) (by omega) hb17
  have hpl : ps.length ≤ 100001 := by have := nodup_le hnd (fun z hz => (hT z hz).1); omega
  have HE : Hid (Ep w0 w2 E B m f ps) := h
  clear h
  refine wp_seq_hid (fun K HK => ?_)
  go_wp2_with (go_at_call 60; refine Calls.mono (back60 _ _ _ _) ?_; rintro e w3 ⟨rfl, rfl⟩; dsimp only)
  obtain ⟨E1, hE1⟩ : ∃ E1, E1 = upd E 25 w2.heap.size := ⟨_, rfl⟩
  have hst := HE.out.st.new #[.slice pa ps.length pc] 46 25 26 (.inr ⟨rfl, rfl⟩) (bx 46 (.slice pa ps.length pc)) rfl rfl (fun i u hu => by
    match i, hu with
    | 0, hu => simp at hu; exact hu.symm)
  rw [← hE1] at hst
  obtain ⟨B1, hB1⟩ : ∃ B1, B1 = upd B 25 (bx 46 (.slice pa ps.length pc)) := ⟨_, rfl⟩
  rw [← hB1] at hst
  have hBo : ∀ k, k < 25 → B1 k = B k := fun k hk => by rw [hB1, upd_other _ _ (by omega)]
  have hEo : ∀ k, k < 25 → E1 k = E k := fun k hk => by rw [hE1, upd_other _ _ (by omega)]
  have e25 : E1 25 = w2.heap.size := by rw [hE1, upd_same]
  have b25 : B1 25 = bx 46 (.slice pa ps.length pc) := by rw [hB1, upd_same]
  have hsz : w0.heap.size ≤ (w2.alloc (.cells #[.slice pa ps.length pc] 46)).heap.size := hst.since.size
  have b20 : B1 20 = arr m f := by rw [hBo 20 (by omega)]; exact HE.out.b20
  have hup : upd B1 20 (arr m f) = B1 := by funext j; by_cases hj : j = 20 <;> simp [upd, hj, b20]
  have H0 : Er w0 E1 B1 m f ps 0 (w2.alloc (.cells #[.slice pa ps.length pc] 46)) := ⟨f, by rw [hup]; exact hst, HE.out.fb, fun _ _ h => h, fun _ _ => rfl⟩
  have HCELL : ∀ k W, Er w0 E1 B1 m f ps k W → W.cell? ⟨w2.heap.size, 0, none⟩ = some (.slice pa ps.length pc) ∧ ∀ j, j < ps.length → W.cell? ⟨E 21, 0 + j, none⟩ = some (.int .i64 ((ps.getD j 0 : Nat) : Int)) := by
    rintro k W ⟨f', hS, _⟩
    refine ⟨by rw [← e25]; exact hS.box (k := 25) (by omega) b25, fun j hj => ?_⟩
    rcases hSl with ⟨hn, _⟩ | ⟨hn, h21, hle, hmx⟩
    · simp only [Value.slice.injEq] at hn; omega
    · simp only [Value.slice.injEq, true_and] at hn
      obtain ⟨_, rfl⟩ := hn
      obtain ⟨u, hu, hq⟩ := hS.read 21 (by omega) (i := j) (by rw [upd_other _ _ (by omega), hBo 21 (by omega), h21]; show j < pc * 1; omega)
      rw [upd_other _ _ (by omega), hBo 21 (by omega), h21] at hq
      obtain ⟨z, hz, rfl⟩ := hq (by omega)
      rw [hEo 21 (by omega)] at hu
      rw [Nat.zero_add, hu, List.getD_eq_getElem?_getD, hz]
      rfl
  refine wpIn_wide.1 (wpIn_known (n := 9) (gf := 85) (lb := #[.pointer (some ⟨w2.heap.size, 0, none⟩)]) rfl ?eg ps.length (fun k => #[.int .i64 ((ps.length - 1 - k : Nat) : Int), .int .i64 ((ps.getD (ps.length - 1 - k) 0 : Nat) : Int)]) (fun _ => rfl) (Er w0 E1 B1 m f ps) ?ja ?jp H0 ?hit (fun k => ⟨#[.int .i64 (v : Nat), .pointer (some ⟨E 16, 0, none⟩), .pointer (some ⟨E 17, 0, none⟩), .pointer (some ⟨E 14, 0, none⟩), .pointer (some ⟨E 15, 0, none⟩), c5, c6, c7, c8, .int .i64 ((ps.getD (ps.length - 1 - k) 0 : Nat) : Int), c10, c11, c12, c13, c14, c15, c16, c17, c18, c19, c20, c21, c22, c23, c24, c25, c26, c27, c28, c29, c30, c31, c32, c33, c34, c35, .slice pa ps.length pc, .func (.func 85) #[] #[.pointer (some ⟨w2.heap.size, 0, none⟩)], .int .i64 ((ps.length - 1 - k : Nat) : Int), .int .i64 ((ps.getD (ps.length - 1 - k) 0 : Nat) : Int), c40, c41, c42, c43, c44, c45, c46, c47, c48, c49, c50, c51, c52, c53, c54, c55, c56, c57, c58, c59, c60, c61, c62, c63, c64, c65, c66, c67, c68, c69, c70, c71, c72, c73, c74, c75, c76], []⟩) ?asg ?bo ?dn)
  case eg => exact enters_of Ybaz.func85 (by kernel_rfl) rfl
  case ja => rintro k W o ⟨f', hS, r⟩; exact ⟨f', hS.alloc o, r⟩
  case jp => rintro k W l o o' hl ho hc ⟨f', hS, r⟩; exact ⟨f', hS.putObj o' ho hc (by omega), r⟩
  case hit =>
    intro l W JJ hJJ hY h0
    exact back85 (m := 8) (Bs := w2.heap.size) (b := E 21) (off := 0) (fun j => ((ps.getD j 0 : Nat) : Int)) hpa (by omega) (Er w0 E1 B1 m f ps) HCELL l W JJ hJJ hY h0
  case asg =>
    intro l k W K1 hk hK1
    generalize ps.length - 1 - k = i1 at hK1 ⊢
    generalize ps.getD i1 0 = z1 at hK1 ⊢
    have HK1 : Hid (K1 _ W) := hK1
    clear hK1
    gi_wp2
    exact HK1.out
  case bo =>
    intro l k W hk hJ
    rw [← hEo 14 (by omega), ← hEo 15 (by omega), ← hEo 16 (by omega), ← hEo 17 (by omega)]
    exact eval_round hk hT hnd (by rw [hBo 14 (by omega), hEo 18 (by omega)]; exact HE.out.b14) (by rw [hBo 15 (by omega), hEo 19 (by omega)]; exact HE.out.b15) (by rw [hBo 16 (by omega), hEo 20 (by omega)]; exact HE.out.b16) (by rw [hBo 18 (by omega)]; exact HE.out.b18) (by rw [hBo 19 (by omega)]; exact HE.out.b19) hJ
  case dn =>
    rintro D W hDs ⟨f', hS, hb', _, _⟩ hD
    refine HK.out _ _ ?_
    clear HK K
    dsimp only
    have k15 : W.cell? ⟨E 15, 0, none⟩ = some (.slice (some ⟨E 19, 0, none⟩) m m) := by rw [← hEo 15 (by omega)]; exact hS.box (k := 15) (by omega) (by rw [upd_other _ _ (by omega), hBo 15 (by omega)]; exact HE.out.b15)
    obtain ⟨u, ku, u0, u1⟩ := hS.intAt (k := 19) (by omega) (by rw [upd_other _ _ (by omega), hBo 19 (by omega)]; exact HE.out.b19) hv
    rw [hEo 19 (by omega)] at ku
    obtain ⟨u, rfl⟩ : ∃ n : Nat, u = n := ⟨u.toNat, by omega⟩
    have hvz : (v : Int) < (m : Int) := by omega
    have HS : Hid (St w0 W 26 E1 (upd B1 20 (arr m f'))) := hS
    clear hS hst H0 HCELL
    go_wp2
    refine ⟨by simp, .inl ⟨_, _, rfl, run_takeDeferred hD, ?_⟩⟩
    refine ⟨_, results_tmp rfl _ _ _, ?_⟩
    have s1 := (HS.out.putObj (.deferred none) hD rfl (by omega)).bound (k := 20) (upd_same _ _ _) (lo := fun _ => -1) (hi := fun i => (i : Int)) hb'
    rw [upd_upd] at s1
    have s2 : St w0 (W.putObj D (.deferred none)) 25 E (upd B 20 (ints m (fun _ => -1) (fun i => (i : Int)))) := (s1.less (K' := 25) (by omega)).congr (fun k hk => (hEo k hk).symm) (fun k hk => by
      by_cases e : k = 20
      · subst e; rw [upd_same, upd_same]
      · rw [upd_other _ _ e, upd_other _ _ e, hBo k hk])
    rcases hSl with ⟨hn, hz⟩ | ⟨hn, h21, hle, hmx⟩
    · exact hR u _ _ (by omega) (fun k h1 h2 => upd_other _ _ h1) ⟨s2, HE.out.b14, HE.out.b15, HE.out.b16, ⟨_, 0, 0, hb17, .inl ⟨hn, rfl⟩⟩, HE.out.b18, HE.out.b19, rfl⟩
    · have s3 := s2.wkn 21 (gl 3 1 ps.length cap anyInt) (by show 3 = (B 21).t; rw [h21]; rfl) (by show cap * 1 = (B 21).n; rw [h21]; rfl) (fun i u _ hu hi => by
        have hu' : (B 21).p i u := hu
        rw [h21] at hu'
        obtain ⟨z, _, rfl⟩ := hu' hi
        exact ⟨z, rfl⟩)
      exact hR u _ _ (by omega) (fun k h1 h2 => by rw [upd_other _ _ h2, upd_other _ _ h1]) ⟨s3, HE.out.b14, HE.out.b15, HE.out.b16, ⟨_, ps.length, cap, hb17, .inr ⟨hn, rfl, hle, hmx⟩⟩, HE.out.b18, HE.out.b19, rfl⟩
end Go.Proofs.YbulkexmzaGreat
