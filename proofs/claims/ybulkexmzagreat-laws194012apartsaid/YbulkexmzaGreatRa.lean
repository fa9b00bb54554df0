/-
  The law's check: what it reads; how many edges lead to each block (regions 91 to 95).
-/
import Derived.Test.YbulkexmzaGreatQl
namespace Go.Proofs.YbulkexmzaGreat
open Go.RowKit
attribute [local go_sem] fup_at
/-- What the check reads. -/
structure Chk (w0 w : World) (E : Lab → Nat) (B : Lab → Option Lb) (X : Ain) (al want : ByteArray) (fv : Value) : Prop where
  sg : Sg w0 w E B
  g1 : B (0, 1, 0, 0) = some (vals 26 3 (litv pkgs))
  g2 : ∃ Dp v cap, B (0, 2, 0, 0) = some (vals 34 8 Dp) ∧ Dp 1 = v ∧ Dp 7 = .string al ∧ Slg E B (0, 7, 0, 0) 56 X.N cap (fun j u => u = .pointer (some ⟨E (1, j, 0, 0), 0, none⟩)) v
  g3 : ∃ pv, B (0, 3, 0, 0) = some (vals 39 X.N pv) ∧ ∀ j, j < X.N → ∃ cap, Slg E B (5, j, 0, 0) 40 (X.n j) cap (fun t u => u = .pointer (some ⟨E (10, j, t, 0), 0, none⟩)) (pv j)
  g4 : ∃ sv, B (0, 4, 0, 0) = some (vals 47 X.N sv) ∧ ∀ j, j < X.N → sv j = .slice (some ⟨E (3, j, 0, 0), 0, none⟩) (X.n j) (X.n j)
  g5 : ∃ tv, B (0, 5, 0, 0) = some (vals 46 X.N tv) ∧ ∀ j, j < X.N → tv j = .slice (some ⟨E (4, j, 0, 0), 0, none⟩) (X.n j) (X.n j)
  g6 : ∃ rv, B (0, 6, 0, 0) = some (vals 50 X.N rv) ∧ ∀ j, j < X.N → rv j = X.pin.rv E j
  g8 : ∃ cap, Slg E B (0, 8, 0, 0) 56 X.N cap (fun j u => u = .pointer (some ⟨E (1, j, 0, 0), 0, none⟩)) fv
  dn : ∀ i, i < X.N → Fdn E B i (X.fd i) (pkgn (X.P i % 3)) (X.pin.rv E i) (X.pin.ab want i)
  sn : ∀ i, i < X.N → Snap E B i (X.fd i)
  fx : ∀ i, i < X.N → Fx E B i (X.fd i)
theorem Chk.keep {w0 w w' : World} {E E' : Lab → Nat} {B B' : Lab → Option Lb} {X : Ain} {al want : ByteArray} {fv : Value} (h : Chk w0 w E B X al want fv) (hS : Sg w0 w' E' B') (he : ∀ l : Lab, l.1 < 40 → E' l = E l) (hb : ∀ l : Lab, l.1 < 40 → B' l = B l) : Chk w0 w' E' B' X al want fv := by
  have hb0 : ∀ a, B' (0, a, 0, 0) = B (0, a, 0, 0) := fun a => hb _ (by simp)
  have he0 : ∀ a, E' (0, a, 0, 0) = E (0, a, 0, 0) := fun a => he _ (by simp)
  have e1 : ∀ j, E' (1, j, 0, 0) = E (1, j, 0, 0) := fun j => he _ (by simp)
  have hrv : ∀ j, X.pin.rv E' j = X.pin.rv E j := fun j => by unfold Pin.rv; rw [he _ (by simp)]
  have big : ∀ l : Lab, l.1 < 40 ∨ 40 ≤ l.1 := fun l => by omega
  refine ⟨hS, by rw [hb0]; exact h.g1, ?_, ?_, ?_, ?_, ?_, ?_, fun i hi => ?_, fun i hi => ?_, fun i hi => (h.fx i hi).congr (fun t => he _ (by simp)) (fun e => hb _ (by simp)) (fun a b => hb _ (by simp))⟩
  · obtain ⟨Dp, v, cap, h1, h2, h3, h4⟩ := h.g2
    refine ⟨Dp, v, cap, by rw [hb0]; exact h1, h2, h3, ?_⟩
    simp only [e1]
    exact h4.congr (he0 7) (hb0 7)
  · obtain ⟨pv, h1, h2⟩ := h.g3
    refine ⟨pv, by rw [hb0]; exact h1, fun j hj => ?_⟩
    obtain ⟨cap, h3⟩ := h2 j hj
    have e10 : ∀ t, E' (10, j, t, 0) = E (10, j, t, 0) := fun t => he _ (by simp)
    simp only [e10]
    exact ⟨cap, h3.congr (he _ (by simp)) (hb _ (by simp))⟩
  · obtain ⟨sv, h1, h2⟩ := h.g4
    exact ⟨sv, by rw [hb0]; exact h1, fun j hj => by rw [he _ (by simp)]; exact h2 j hj⟩
  · obtain ⟨sv, h1, h2⟩ := h.g5
    exact ⟨sv, by rw [hb0]; exact h1, fun j hj => by rw [he _ (by simp)]; exact h2 j hj⟩
  · obtain ⟨sv, h1, h2⟩ := h.g6
    exact ⟨sv, by rw [hb0]; exact h1, fun j hj => by rw [hrv]; exact h2 j hj⟩
  · obtain ⟨cap, h1⟩ := h.g8
    simp only [e1]
    exact ⟨cap, h1.congr (he0 8) (hb0 8)⟩
  · rw [hrv]
    have hd := h.dn i hi
    refine ⟨?_, fun k hk => ?_⟩
    · obtain ⟨bl, cap, lb, h1, h2, h3, h4, h5⟩ := hd.fn
      have q1 : E' bl = E bl := by rcases h2 with rfl | rfl <;> exact he _ (by simp)
      have q2 : B' bl = B bl := by rcases h2 with rfl | rfl <;> exact hb _ (by simp)
      obtain ⟨nf, D, m1, m2, m3⟩ := h1.mem
      refine ⟨bl, cap, lb, ⟨nf, D, m1, by rw [hb _ (by simp)]; exact m2, by rw [q1]; exact m3⟩, h2, q2.trans h3, h4, fun k u hk hu => ?_⟩
      rw [he _ (by simp)]; exact h5 k u hk hu
    · exact ((hd.blk k hk).congr (he _ (by simp)) (hb _ (by simp)) (hb _ (by simp))).ptr (he _ (by simp)) (fun a b => he _ (by simp))
  · have hs := h.sn i hi
    obtain ⟨D, h1, h2⟩ := hs.s3
    obtain ⟨T, h3, h4⟩ := hs.s4
    refine ⟨⟨D, by rw [hb _ (by simp)]; exact h1, fun j hj => (h2 j hj).step (fun a b ha => he _ (by simp only; omega)) (fun t => he _ (by simp)) (fun a ha => hb _ (by simp only; omega)) (fun _ _ _ => rfl)⟩, T, by rw [hb _ (by simp)]; exact h3, h4⟩
theorem pd_step (tg : Nat → Option Nat) (x k : Nat) : pd tg (x + 1) k = pd tg x k + if tg x = some k then 1 else 0 := by
  unfold pd
  rw [Nat.add_assoc]
  rfl
theorem pd_le (tg : Nat → Option Nat) (x k : Nat) : pd tg x k ≤ x + 1 := by
  unfold pd
  have := cn_le tg k x
  split <;> omega
set_option maxHeartbeats 4000000 in
set_option maxRecDepth 100000 in
theorem c91 {F : (Nat → Value) → Act} (hF : Fr 559 F) {w0 w : World} {E : Lab → Nat} {B : Lab → Option Lb} {d : Fd} {i : Nat} {T Z : Nat → Int} {f : Nat → Value} {Q : Exit → Act → World → Prop} (hd : Fdk d)
    (hS : Sg w0 w E B) (h4 : B (4, i, 0, 0) = some (arr d.n T)) (hT : ∀ j, j < d.n → T j = tgi d j) (h40 : B (40, 0, 0, 0) = some (arr d.n Z)) (hZ : ∀ k, k < d.n → Z k = (pd d.tg 0 k : Nat))
    (h37 : f 37 = .slice (some ⟨E (4, i, 0, 0), 0, none⟩) d.n d.n) (h38 : f 38 = .int .i64 (d.n : Nat)) (h39 : f 39 = .slice (some ⟨E (40, 0, 0, 0), 0, none⟩) d.n d.n)
    (hQ : ∀ y w' B' Z', (∀ s, s < 373 → s ≠ 40 → y s = f s) → Sg w0 w' E B' → (∀ l : Lab, l ≠ (40, 0, 0, 0) → B' l = B l) → B' (40, 0, 0, 0) = some (arr d.n Z') → (∀ k, k < d.n → Z' k = (pd d.tg d.n k : Nat)) → Q .normal (F y) w') :
    (hd1 ((Ybaz.f3.body.bind (codeAt 91)).getD .skip)).wp Ybaz.prog Q (F f) w := by
  conv => arg 2; whnf
  have hget := hF.get
  have hmk := hF.up
  have HQ : Hid _ := hQ
  have HD : Hid (Fdk d) := hd
  have HS : Hid (Sg w0 w E B) := hS
  have H4 : Hid (B (4, i, 0, 0) = some (arr d.n T)) := h4
  have HT : Hid (∀ j, j < d.n → T j = tgi d j) := hT
  have H40 : Hid (B (40, 0, 0, 0) = some (arr d.n Z)) := h40
  have HZ : Hid (∀ k, k < d.n → Z k = (pd d.tg 0 k : Nat)) := hZ
  have hnm := hd.nm
  clear hQ hd hS h4 hT h40 hZ
  refine wp_seq_hid (fun K HK => ?_)
  go_wp2
  refine HK.out _ _ ?_
  clear HK
  refine wp_block ?_
  refine wp_loop_ghost_k (fun g a w => ∃ y, a = F y ∧ ∃ x B' Z', g + x = d.n ∧ (∀ s, s < 373 → s ≠ 40 → y s = f s) ∧ y 40 = .int .i64 (x : Nat) ∧ Sg w0 w E B' ∧ (∀ l : Lab, l ≠ (40, 0, 0, 0) → B' l = B l) ∧ B' (40, 0, 0, 0) = some (arr d.n Z') ∧ (∀ k, k < d.n → Z' k = (pd d.tg x k : Nat))) d.n
    ⟨_, rfl, 0, B, Z, rfl, fun s hs _ => by
      simp only [fup_at]
      repeat rw [if_neg (by omega)], by simp [fup_at], HS.out, fun _ _ => rfl, H40.out, HZ.out⟩ ?_
  clear HS H40 HZ
  rintro g _ w1 ⟨y, rfl, x, B', Z', hg, hy, y40, hS, hB, hb40, hZ⟩ J K3 hJk hK3
  have HJk : Hid (∀ g a w, (∃ y, a = F y ∧ ∃ x B' Z', g + x = d.n ∧ (∀ s, s < 373 → s ≠ 40 → y s = f s) ∧ y 40 = .int .i64 (x : Nat) ∧ Sg w0 w E B' ∧ (∀ l : Lab, l ≠ (40, 0, 0, 0) → B' l = B l) ∧ B' (40, 0, 0, 0) = some (arr d.n Z') ∧ (∀ k, k < d.n → Z' k = (pd d.tg x k : Nat))) → J g a w) := hJk
  have HK3 : Hid (∀ a' w', Handed J g a' w' → K3 a' w') := hK3
  have HS : Hid (Sg w0 w1 E B') := hS
  have HB : Hid (∀ l : Lab, l ≠ (40, 0, 0, 0) → B' l = B l) := hB
  have H40 : Hid (B' (40, 0, 0, 0) = some (arr d.n Z')) := hb40
  have HZ : Hid (∀ k, k < d.n → Z' k = (pd d.tg x k : Nat)) := hZ
  have HY : Hid (∀ s, s < 373 → s ≠ 40 → y s = f s) := hy
  have y37 := (hy 37 (by omega) (by omega)).trans h37
  have y38 := (hy 38 (by omega) (by omega)).trans h38
  have y39 := (hy 39 (by omega) (by omega)).trans h39
  clear hJk hK3 hS hB hb40 hZ hy
  refine wp_seq_hid (fun K4 HK4 => ?_)
  go_wp2
  refine hF.cond (by omega) rfl (fun hh => ?_) (fun hh => ?_)
  · have hx : x < d.n := by simpa using hh
    clear hh
    go_wp2
    refine HK4.out _ _ ?_
    clear HK4
    have kt := HS.out.arr ((HB.out (4, i, 0, 0) (by simp)).trans H4.out) hx
    rw [HT.out x hx] at kt
    refine wp_seq_hid (fun K4 HK4 => ?_)
    refine wp_block ?_
    cases ht : d.tg x with
    | none =>
      have ht' : tgi d x = -1 := by unfold tgi; rw [ht]
      rw [ht'] at kt
      have HTg : Hid (d.tg x = none) := ht
      clear ht ht'
      refine wp_seq_hid (fun K5 HK5 => ?_)
      go_wp2
      refine HK5.out _ _ ?_
      clear HK5
      refine hF.cond (by omega) rfl (fun hh => by simp at hh) (fun hh => ?_)
      go_wp2
      refine HK4.out _ _ ?_
      clear HK4 kt hh
      go_wp2
      refine HK3.out _ _ ⟨g - 1, by omega, HJk.out _ _ _ ⟨_, rfl, x + 1, B', Z', by omega, fun s h1 h2 => ?_, by simp [fup_at], HS.out, HB.out, H40.out, fun k hk => ?_⟩⟩
      · simp only [fup_at]; repeat rw [if_neg (by omega)]
        exact HY.out s h1 h2
      · rw [pd_step, HTg.out, if_neg (by simp), Nat.add_zero]; exact HZ.out k hk
    | some t =>
      have ht' : tgi d x = (t : Nat) := by unfold tgi; rw [ht]
      rw [ht'] at kt
      have htn := HD.out.tl x t ht
      have HTg : Hid (d.tg x = some t) := ht
      have kz := HS.out.arr H40.out htn
      have kzf := HS.out.frz H40.out t
      obtain ⟨z, hz⟩ : ∃ z, z = pd d.tg x t := ⟨_, rfl⟩
      obtain ⟨z1, hz1⟩ : ∃ z1, z1 = z + 1 := ⟨_, rfl⟩
      rw [HZ.out t htn, ← hz] at kz
      have hzl : z ≤ x + 1 := by rw [hz]; exact pd_le _ _ _
      have hw : IntKind.i64.wrap ((z : Int) + 1) = (z1 : Int) := by rw [IntKind.wrap_i64] <;> omega
      have HZ1 : Hid (z1 = pd d.tg x t + 1) := by rw [hz1, hz]; exact rfl
      have HS2 : Hid (Sg w0 (w1.setCell ⟨E (40, 0, 0, 0), t, none⟩ (.int .i64 (z1 : Nat))) E (lup B' (40, 0, 0, 0) (some (arr d.n (upd Z' t (z1 : Nat)))))) := HS.out.setArr H40.out t (z1 : Nat)
      clear ht ht' hz hz1
      refine wp_seq_hid (fun K5 HK5 => ?_)
      go_wp2
      refine HK5.out _ _ ?_
      clear HK5
      refine hF.cond (by omega) rfl (fun hh => ?_) (fun hh => by simp at hh)
      clear hh
      go_wp2
      refine HK4.out _ _ ?_
      clear HK4 kt kz kzf
      go_wp2
      refine HK3.out _ _ ⟨g - 1, by omega, HJk.out _ _ _ ⟨_, rfl, x + 1, _, _, by omega, fun s h1 h2 => ?_, by simp [fup_at], HS2.out, fun l hl => ?_, lup_same _ _ _, fun k hk => ?_⟩⟩
      · simp only [fup_at]; repeat rw [if_neg (by omega)]
        exact HY.out s h1 h2
      · rw [lup_other _ _ hl]; exact HB.out l hl
      · rw [pd_step, HTg.out]
        by_cases e : k = t
        · subst e; rw [upd_same, if_pos rfl, HZ1.out]
        · rw [upd_other _ _ e, if_neg (fun h => e (by injection h with h; exact h.symm)), Nat.add_zero]; exact HZ.out k hk
  · have hx : x = d.n := by
      have : ¬ x < d.n := by simpa using hh
      omega
    subst hx
    clear hh HK3 HJk HK4
    go_wp2
    refine HQ.out _ _ B' Z' (fun s h1 h2 => ?_) HS.out HB.out H40.out HZ.out
    simp only [fup_at]; repeat rw [if_neg (by omega)]
    exact HY.out s h1 h2
end Go.Proofs.YbulkexmzaGreat
