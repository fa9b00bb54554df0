/-
  The law's check: which blocks lead (regions 98 to 108).
-/
import Derived.Test.YbulkexmzaGreatWd
namespace Go.Proofs.YbulkexmzaGreat
open Go.RowKit
attribute [local go_sem] fup_at
set_option maxHeartbeats 4000000 in
set_option maxRecDepth 100000 in
theorem c98 {F : (Nat → Value) → Act} (hF : Fr 559 F) {w0 w : World} {E : Lab → Nat} {B : Lab → Option Lb} {d : Fd} {i : Nat} {mt : Bool} {AB : Nat → Bool} {Ds : Nat → Value} {T Z : Nat → Int} {f : Nat → Value} {Q : Exit → Act → World → Prop} (hd : Fdk d) (hAB : AB = abs mt d.tg d.n)
    (hS : Sg w0 w E B) (h3 : B (3, i, 0, 0) = some (vals 45 (d.n * 6) Ds)) (hsn : ∀ j, j < d.n → Snb E B i d Ds j) (h4 : B (4, i, 0, 0) = some (arr d.n T)) (hT : ∀ j, j < d.n → T j = tgi d j) (h40 : B (40, 0, 0, 0) = some (arr d.n Z)) (hZ : ∀ k, k < d.n → Z k = (pd d.tg d.n k : Nat))
    (h35 : f 35 = .bool mt) (h36 : f 36 = .slice (some ⟨E (3, i, 0, 0), 0, none⟩) d.n d.n) (h37 : f 37 = .slice (some ⟨E (4, i, 0, 0), 0, none⟩) d.n d.n) (h38 : f 38 = .int .i64 (d.n : Nat)) (h39 : f 39 = .slice (some ⟨E (40, 0, 0, 0), 0, none⟩) d.n d.n)
    (h41 : f 41 = .slice none 0 0) (h42 : f 42 = .slice none 0 0) (h43 : f 43 = .slice none 0 0)
    (hQ : ∀ y w' E' B' lv ov nv iv, (∀ s, s < 392 → s < 41 ∨ 46 < s → y s = f s) → Sg w0 w' E' B' → (∀ l : Lab, l.1 < 41 → E' l = E l) → (∀ l : Lab, l.1 < 41 → B' l = B l) → y 41 = lv → y 42 = ov → y 43 = nv → Lds E' B' i d AB d.n lv ov nv iv → Q .normal (F y) w') :
    (hd1 ((Ybaz.f3.body.bind (codeAt 98)).getD .skip)).wp Ybaz.prog Q (F f) w := by
  conv => arg 2; whnf
  have hget := hF.get
  have hmk := hF.up
  have HQ : Hid _ := hQ
  have HD : Hid (Fdk d) := hd
  have HAB : Hid (AB = abs mt d.tg d.n) := hAB
  have HS : Hid (Sg w0 w E B) := hS
  have H3 : Hid (B (3, i, 0, 0) = some (vals 45 (d.n * 6) Ds)) := h3
  have HSN : Hid (∀ j, j < d.n → Snb E B i d Ds j) := hsn
  have H4 : Hid (B (4, i, 0, 0) = some (arr d.n T)) := h4
  have HT : Hid (∀ j, j < d.n → T j = tgi d j) := hT
  have H40 : Hid (B (40, 0, 0, 0) = some (arr d.n Z)) := h40
  have HZ : Hid (∀ k, k < d.n → Z k = (pd d.tg d.n k : Nat)) := hZ
  have hnm := hd.nm
  have hA0 : AB 0 = false := by rw [hAB]; exact abs_zero _ _ _
  clear hQ hd hS h3 hsn h4 hT h40 hZ hAB
  refine wp_seq_hid (fun K HK => ?_)
  go_wp2
  refine HK.out _ _ ?_
  clear HK
  refine wp_block ?_
  refine wp_loop_ghost_k (fun g a w => ∃ y, a = F y ∧ ∃ x E' B' lv ov nv iv, g + x = d.n ∧ (∀ s, s < 392 → s < 41 ∨ 46 < s → y s = f s) ∧ y 44 = .int .i64 (x : Nat) ∧ Sg w0 w E' B' ∧ (∀ l : Lab, l.1 < 41 → E' l = E l) ∧ (∀ l : Lab, l.1 < 41 → B' l = B l) ∧ y 41 = lv ∧ y 42 = ov ∧ y 43 = nv ∧ Lds E' B' i d AB x lv ov nv iv) d.n
    ⟨_, rfl, 0, E, B, .slice none 0 0, .slice none 0 0, .slice none 0 0, fun _ => undef, rfl, fun s hs _ => by
      simp only [fup_at]
      repeat rw [if_neg (by omega)], by simp [fup_at], HS.out, fun _ _ => rfl, fun _ _ => rfl, by simp [fup_at, h41], by simp [fup_at, h42], by simp [fup_at, h43], ⟨⟨0, .inl ⟨rfl, rfl⟩⟩, ⟨0, .inl ⟨rfl, rfl⟩⟩, ⟨0, .inl ⟨rfl, rfl⟩⟩, fun k hk => absurd hk (Nat.not_lt_zero _)⟩⟩ ?_
  clear HS h41 h42 h43
  rintro g _ w1 ⟨y, rfl, x, E', B', lv, ov, nv, iv, hg, hy, y44, hS, hE, hB, y41, y42, y43, hL⟩ J K3 hJk hK3
  have HJk : Hid (∀ g a w, (∃ y, a = F y ∧ ∃ x E' B' lv ov nv iv, g + x = d.n ∧ (∀ s, s < 392 → s < 41 ∨ 46 < s → y s = f s) ∧ y 44 = .int .i64 (x : Nat) ∧ Sg w0 w E' B' ∧ (∀ l : Lab, l.1 < 41 → E' l = E l) ∧ (∀ l : Lab, l.1 < 41 → B' l = B l) ∧ y 41 = lv ∧ y 42 = ov ∧ y 43 = nv ∧ Lds E' B' i d AB x lv ov nv iv) → J g a w) := hJk
  have HK3 : Hid (∀ a' w', Handed J g a' w' → K3 a' w') := hK3
  have HS : Hid (Sg w0 w1 E' B') := hS
  have HE : Hid (∀ l : Lab, l.1 < 41 → E' l = E l) := hE
  have HB : Hid (∀ l : Lab, l.1 < 41 → B' l = B l) := hB
  have HL : Hid (Lds E' B' i d AB x lv ov nv iv) := hL
  have HY : Hid (∀ s, s < 392 → s < 41 ∨ 46 < s → y s = f s) := hy
  have HY4 : Hid (y 41 = lv ∧ y 42 = ov ∧ y 43 = nv) := ⟨y41, y42, y43⟩
  have y38 := (hy 38 (by omega) (by omega)).trans h38
  clear hJk hK3 hS hE hB hL y41 y42 y43 hy
  refine wp_seq_hid (fun K4 HK4 => ?_)
  go_wp2
  refine hF.cond (by omega) rfl (fun hh => ?_) (fun hh => ?_)
  · have hx : x < d.n := by simpa using hh
    clear hh
    go_wp2
    refine HK4.out _ _ ?_
    clear HK4
    have y35 := (HY.out 35 (by omega) (by omega)).trans h35
    have y36 := (HY.out 36 (by omega) (by omega)).trans h36
    have y37 := (HY.out 37 (by omega) (by omega)).trans h37
    have y39 := (HY.out 39 (by omega) (by omega)).trans h39
    refine wp_seq_hid (fun K4 HK4 => ?_)
    refine wp_block ?_
    refine wp_seq_hid (fun K5 HK5 => ?_)
    have hsn' : Snb E' B' i d Ds x := (HSN.out x hx).step (fun a b ha => HE.out _ (by simp only; omega)) (fun t => HE.out _ (by simp)) (fun a ha => HB.out _ (by simp only; omega)) (fun _ _ _ => rfl)
    have HSNx : Hid (Snb E' B' i d Ds x) := hsn'
    have e3 : E' (3, i, 0, 0) = E (3, i, 0, 0) := HE.out _ (by simp)
    have HEND : Hid (∀ y6 w6 E6 B6 lv6 ov6 nv6 iv6, (∀ s, s < 392 → s < 41 ∨ 46 < s → y6 s = y s) → y6 44 = .int .i64 (x : Nat) → Sg w0 w6 E6 B6 → (∀ l : Lab, l.1 < 41 → E6 l = E' l) → (∀ l : Lab, l.1 < 41 → B6 l = B' l) → y6 41 = lv6 → y6 42 = ov6 → y6 43 = nv6 → Lds E6 B6 i d AB (x + 1) lv6 ov6 nv6 iv6 → K4 (F y6) w6) := by
      intro y6 w6 E6 B6 lv6 ov6 nv6 iv6 hy6 z44 hS6 hE6 hB6 z41 z42 z43 hL6
      refine HK4.out _ _ ?_
      clear HK4
      have HZ4 : Hid (y6 41 = lv6 ∧ y6 42 = ov6 ∧ y6 43 = nv6) := ⟨z41, z42, z43⟩
      have HY6 : Hid (∀ s, s < 392 → s < 41 ∨ 46 < s → y6 s = y s) := hy6
      have HL6 : Hid (Lds E6 B6 i d AB (x + 1) lv6 ov6 nv6 iv6) := hL6
      clear z41 z42 z43 hy6 hL6
      go_wp2
      refine HK3.out _ _ ⟨g - 1, by omega, HJk.out _ _ _ ⟨_, rfl, x + 1, E6, B6, lv6, ov6, nv6, iv6, by omega, fun s h1 h2 => ?_, by simp [fup_at], hS6, fun l hl => (hE6 l hl).trans (HE.out l hl), fun l hl => (hB6 l hl).trans (HB.out l hl), ?_, ?_, ?_, HL6.out⟩⟩
      · simp only [fup_at]; repeat rw [if_neg (by omega)]
        rw [HY6.out s h1 h2]; exact HY.out s h1 h2
      · simp only [fup_at]; repeat rw [if_neg (by omega)]
        exact HZ4.out.1
      · simp only [fup_at]; repeat rw [if_neg (by omega)]
        exact HZ4.out.2.1
      · simp only [fup_at]; repeat rw [if_neg (by omega)]
        exact HZ4.out.2.2
    have HYES : Hid (∀ z : Nat → Value, z 45 = .bool true → (∀ s, s < 392 → s ≠ 45 → z s = y s) → AB x = true → K5 (F z) w1) := by
      intro z z45 hz hab
      refine HK5.out _ _ ?_
      clear HK5
      refine wp_seq_hid (fun K6 HK6 => ?_)
      go_wp2
      refine HK6.out _ _ ?_
      clear HK6
      refine hF.cond (by omega) rfl (fun hh => ?_) (fun hh => by simp at hh)
      clear hh
      refine c103 hF (i := i) (x := x) HD.out hx hA0 hab HS.out ((HB.out _ (by simp)).trans H3.out) HSNx.out HL.out ?_ ?_ ?_ ?_ ?_ ?_
      · rw [e3]; simp only [fup_at]; repeat rw [if_neg (by omega)]
        exact (hz 36 (by omega) (by omega)).trans y36
      · simp only [fup_at]; repeat rw [if_neg (by omega)]
        exact (hz 41 (by omega) (by omega)).trans HY4.out.1
      · simp only [fup_at]; repeat rw [if_neg (by omega)]
        exact (hz 42 (by omega) (by omega)).trans HY4.out.2.1
      · simp only [fup_at]; repeat rw [if_neg (by omega)]
        exact (hz 43 (by omega) (by omega)).trans HY4.out.2.2
      · simp only [fup_at]; repeat rw [if_neg (by omega)]
        exact (hz 44 (by omega) (by omega)).trans y44
      · intro y6 w6 E6 B6 lv6 ov6 nv6 iv6 hy6 hS6 hE6 hB6 z41 z42 z43 hL6
        refine HEND.out y6 w6 E6 B6 lv6 ov6 nv6 iv6 (fun s h1 h2 => ?_) ?_ hS6 hE6 hB6 z41 z42 z43 hL6
        · rw [hy6 s (by omega) (by omega) (by omega) (by omega) (by omega)]
          simp only [fup_at]; repeat rw [if_neg (by omega)]
          exact hz s h1 (by omega)
        · rw [hy6 44 (by omega) (by omega) (by omega) (by omega) (by omega)]
          simp only [fup_at]; repeat rw [if_neg (by omega)]
          exact (hz 44 (by omega) (by omega)).trans y44
    have HNO : Hid (∀ z : Nat → Value, z 45 = .bool false → (∀ s, s < 392 → s ≠ 45 → z s = y s) → AB x = false → K5 (F z) w1) := by
      intro z z45 hz hab
      refine HK5.out _ _ ?_
      clear HK5
      refine wp_seq_hid (fun K6 HK6 => ?_)
      go_wp2
      refine HK6.out _ _ ?_
      clear HK6
      refine hF.cond (by omega) rfl (fun hh => by simp at hh) (fun hh => ?_)
      clear hh
      refine c106 hF (i := i) (x := x) HD.out hx hab HS.out ((HB.out _ (by simp)).trans H3.out) HSNx.out HL.out ?_ ?_ ?_ ?_ ?_ ?_
      · rw [e3]; simp only [fup_at]; repeat rw [if_neg (by omega)]
        exact (hz 36 (by omega) (by omega)).trans y36
      · simp only [fup_at]; repeat rw [if_neg (by omega)]
        exact (hz 41 (by omega) (by omega)).trans HY4.out.1
      · simp only [fup_at]; repeat rw [if_neg (by omega)]
        exact (hz 42 (by omega) (by omega)).trans HY4.out.2.1
      · simp only [fup_at]; repeat rw [if_neg (by omega)]
        exact (hz 43 (by omega) (by omega)).trans HY4.out.2.2
      · simp only [fup_at]; repeat rw [if_neg (by omega)]
        exact (hz 44 (by omega) (by omega)).trans y44
      · intro y6 w6 E6 B6 lv6 ov6 nv6 iv6 hy6 hS6 hE6 hB6 z41 z42 z43 hL6
        refine HEND.out y6 w6 E6 B6 lv6 ov6 nv6 iv6 (fun s h1 h2 => ?_) ?_ hS6 hE6 hB6 z41 z42 z43 hL6
        · rw [hy6 s (by omega) (by omega) (by omega) (by omega)]
          simp only [fup_at]; repeat rw [if_neg (by omega)]
          exact hz s h1 (by omega)
        · rw [hy6 44 (by omega) (by omega) (by omega) (by omega)]
          simp only [fup_at]; repeat rw [if_neg (by omega)]
          exact (hz 44 (by omega) (by omega)).trans y44
    have HABI : Hid (AB x = true → mt = true ∧ 0 < x ∧ d.tg (x - 1) = some x ∧ pd d.tg d.n x = 1) := fun h => by
      rw [HAB.out] at h
      exact abs_iff.1 h
    have HABN : Hid ((AB x = true → False) → AB x = false) := fun h => by
      cases hb : AB x with
      | false => rfl
      | true => exact absurd hb (fun h1 => h h1)
    have HABY : Hid (mt = true → 0 < x → d.tg (x - 1) = some x → pd d.tg d.n x = 1 → AB x = true) := fun h1 h2 h3 h4 => by
      rw [HAB.out]
      exact abs_iff.2 ⟨h1, h2, h3, h4⟩
    clear HK5 y36 y37 y39
    have y36 := (HY.out 36 (by omega) (by omega)).trans h36
    have y37 := (HY.out 37 (by omega) (by omega)).trans h37
    have y39 := (HY.out 39 (by omega) (by omega)).trans h39
    cases mt with
    | false =>
      go_wp2
      refine HNO.out _ (by simp [fup_at]) (fun s h1 h2 => ?_) (HABN.out (fun h => by have := (HABI.out h).1; cases this))
      simp only [fup_at]; repeat rw [if_neg (by omega)]
    | true =>
      by_cases c1 : x = 0
      · have HX0 : Hid (x = 0) := c1
        have hdg : decide ((x : Int) > 0) = false := decide_eq_false (by omega)
        have hdg' : decide (0 < x) = false := decide_eq_false (by omega)
        clear c1
        go_wp2
        refine HNO.out _ (by simp [fup_at]) (fun s h1 h2 => ?_) (HABN.out (fun h => by have := (HABI.out h).2.1; have := HX0.out; omega))
        simp only [fup_at]; repeat rw [if_neg (by omega)]
      · obtain ⟨xm, hxm⟩ : ∃ xm, xm = x - 1 := ⟨_, rfl⟩
        have hw : IntKind.i64.wrap ((x : Int) - 1) = (xm : Int) := by rw [IntKind.wrap_i64] <;> omega
        have hxmn : xm < d.n := by omega
        have hdg : decide ((x : Int) > 0) = true := decide_eq_true (by omega)
        have hdg' : decide (0 < x) = true := decide_eq_true (by omega)
        have HXM : Hid (xm = x - 1 ∧ 0 < x) := ⟨hxm, by omega⟩
        have hsm := HSN.out xm hxmn
        have kS : w1.cell? ⟨E (3, i, 0, 0), xm * 6 + 2, none⟩ = some (.int .u8 (d.kd xm : Nat)) := by
          have := HS.out.val ((HB.out (3, i, 0, 0) (by simp)).trans H3.out) (i := xm * 6 + 2) (by omega)
          rwa [e3, hsm.kd] at this
        have kT : w1.cell? ⟨E (4, i, 0, 0), xm, none⟩ = some (.int .i64 (tgi d xm)) := by
          have := HS.out.arr ((HB.out (4, i, 0, 0) (by simp)).trans H4.out) hxmn
          rwa [HE.out (4, i, 0, 0) (by simp), HT.out xm hxmn] at this
        have kP : w1.cell? ⟨E (40, 0, 0, 0), x, none⟩ = some (.int .i64 ((pd d.tg d.n x : Nat) : Int)) := by
          have := HS.out.arr ((HB.out (40, 0, 0, 0) (by simp)).trans H40.out) hx
          rwa [HE.out (40, 0, 0, 0) (by simp), HZ.out x hx] at this
        clear c1 hxm hsm
        by_cases c2 : d.kd xm = 0
        · obtain ⟨t, ht⟩ : ∃ t, d.tg xm = some t := by
            cases h : d.tg xm with
            | none => exact absurd h (((HD.out.kt xm).1 c2))
            | some t => exact ⟨t, rfl⟩
          have hti : tgi d xm = (t : Nat) := by unfold tgi; rw [ht]
          rw [c2] at kS
          rw [hti] at kT
          have kS' : w1.cell? ⟨E (3, i, 0, 0), xm * 6 + 2, none⟩ = some (.int .u8 0) := kS
          have HTt : Hid (d.tg xm = some t) := ht
          clear kS hti ht c2
          by_cases c3 : t = x
          · subst c3
            by_cases c4 : pd d.tg d.n t = 1
            · rw [c4] at kP
              have kP' : w1.cell? ⟨E (40, 0, 0, 0), t, none⟩ = some (.int .i64 1) := kP
              have HC4 : Hid (pd d.tg d.n t = 1) := c4
              clear kP c4
              go_wp2
              refine HYES.out _ (by simp [fup_at]) (fun s h1 h2 => ?_) (HABY.out (by trivial) HXM.out.2 (by rw [← HXM.out.1]; exact HTt.out) HC4.out)
              simp only [fup_at]; repeat rw [if_neg (by omega)]
            · have hd4 : decide (((pd d.tg d.n t : Nat) : Int) = 1) = false := decide_eq_false (by omega)
              have HC4 : Hid (¬ pd d.tg d.n t = 1) := c4
              go_wp2
              refine HNO.out _ (by simp [fup_at]; omega) (fun s h1 h2 => ?_) (HABN.out (fun h => HC4.out (HABI.out h).2.2.2))
              simp only [fup_at]; repeat rw [if_neg (by omega)]
          · have hd3 : decide ((t : Int) = (x : Int)) = false := decide_eq_false (by omega)
            have HC3 : Hid (¬ t = x) := c3
            go_wp2
            refine HNO.out _ (by simp [fup_at]) (fun s h1 h2 => ?_) (HABN.out (fun h => HC3.out (by
              have h1 := (HABI.out h).2.2.1
              rw [← HXM.out.1, HTt.out] at h1
              injection h1)))
            simp only [fup_at]; repeat rw [if_neg (by omega)]
        · have hd2 : decide ((d.kd xm : Int) = 0) = false := decide_eq_false (by omega)
          have HC2 : Hid (¬ d.kd xm = 0) := c2
          go_wp2
          refine HNO.out _ (by simp [fup_at]) (fun s h1 h2 => ?_) (HABN.out (fun h => HC2.out ((HD.out.kt xm).2 (by
            have h1 := (HABI.out h).2.2.1
            rw [← HXM.out.1] at h1
            rw [h1]; simp))))
          simp only [fup_at]; repeat rw [if_neg (by omega)]
  · have hx : x = d.n := by
      have : ¬ x < d.n := by simpa using hh
      omega
    subst hx
    clear hh HK3 HJk HK4
    go_wp2
    refine HQ.out _ _ E' B' lv ov nv iv (fun s h1 h2 => ?_) HS.out HE.out HB.out ?_ ?_ ?_ HL.out
    · simp only [fup_at]; repeat rw [if_neg (by omega)]
      exact HY.out s h1 h2
    · simp only [fup_at]; repeat rw [if_neg (by omega)]
      exact HY4.out.1
    · simp only [fup_at]; repeat rw [if_neg (by omega)]
      exact HY4.out.2.1
    · simp only [fup_at]; repeat rw [if_neg (by omega)]
      exact HY4.out.2.2
end Go.Proofs.YbulkexmzaGreat
