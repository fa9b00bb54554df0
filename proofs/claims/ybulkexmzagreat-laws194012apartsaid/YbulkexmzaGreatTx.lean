/-
  newDominance (38): from region 86 on (firstChild and nextSibling out of post).
-/
import Derived.Test.YbulkexmzaGreatTv
import Derived.Test.YbulkexmzaGreatTw
namespace Go.Proofs.YbulkexmzaGreat
open Go.RowKit
attribute [local go_sem] fup_at

/-- Registers: 0 d, 1 the box of post, 2 post, 3 idom, 4 firstChild, 5 nextSibling. -/
structure Po (w0 w : World) (E : Nat → Nat) (B : Nat → Lb) (n : Nat) (pst : List Nat) (pv : Value) (D : Nat → Value) (fc nx : Nat → Int) : Prop where
  st : St w0 w 6 E B
  b0 : B 0 = vals 130 21 D
  b1 : B 1 = bx 46 pv
  b2 : ∃ cap, Sl E B 2 3 1 pst.length cap (ql pst) pv
  b3 : B 3 = ints (n + 1) (fun _ => 0) (fun _ => (n : Int) + 1)
  b4 : B 4 = arr (n + 1) fc
  b5 : B 5 = arr (n + 1) nx
  d1 : D 1 = .slice (some ⟨E 3, 0, none⟩) (n + 1) (n + 1)
theorem Po.link {w0 w : World} {E : Nat → Nat} {B : Nat → Lb} {n : Nat} {pst : List Nat} {pv : Value} {D : Nat → Value} {fc nx : Nat → Int} (h : Po w0 w E B n pst pv D fc nx) (u b : Nat) (z y : Int) :
    ∃ B', Po w0 ((w.setCell ⟨E 4, u, none⟩ (.int .i64 z)).setCell ⟨E 5, b, none⟩ (.int .i64 y)) E B' n pst pv D (upd fc u z) (upd nx b y) := by
  have s1 := (h.st.setArr (k := 4) (by omega) h.b4 u z).setArr (k := 5) (by omega) (by rw [upd_other _ _ (by omega)]; exact h.b5) b y
  refine ⟨_, s1, h.b0, h.b1, ?_, h.b3, rfl, rfl, h.d1⟩
  obtain ⟨c, hc⟩ := h.b2
  exact ⟨c, hc.congr rfl rfl⟩

/-- The links so far. -/
structure Lk (n : Nat) (pst : List Nat) (fc nx : Nat → Int) (j : Nat) : Prop where
  a : ∀ i, i ≤ n → fc i = -1 ∨ ∃ k, k < j ∧ ∃ c : Nat, pst[k]? = some c ∧ fc i = c
  b : ∀ k c, k < j → pst[k]? = some c → nx c = -1 ∨ ∃ k', k' < k ∧ ∃ c' : Nat, pst[k']? = some c' ∧ nx c = c'
theorem Lk.step {n : Nat} {pst : List Nat} {fc nx : Nat → Int} {j u b : Nat} (h : Lk n pst fc nx j) (hnd : pst.Nodup) (hb : pst[j]? = some b) (hu : u ≤ n) : Lk n pst (upd fc u (b : Int)) (upd nx b (fc u)) (j + 1) := by
  refine ⟨fun i hi => ?_, fun k c hk hc => ?_⟩
  · by_cases e : i = u
    · subst e; rw [upd_same]; exact .inr ⟨j, by omega, b, hb, rfl⟩
    · rw [upd_other _ _ e]
      rcases h.a i hi with h1 | ⟨k, h1, h2⟩
      · exact .inl h1
      · exact .inr ⟨k, by omega, h2⟩
  · by_cases e : k = j
    · subst e
      rw [hb] at hc
      cases hc
      rw [upd_same]
      rcases h.a u hu with h1 | ⟨k', h1, h2⟩
      · exact .inl h1
      · exact .inr ⟨k', h1, h2⟩
    · have hne : c ≠ b := by
        rintro rfl
        have h1 := (List.getElem?_eq_some_iff.1 hc)
        have h2 := (List.getElem?_eq_some_iff.1 hb)
        obtain ⟨h1, h3⟩ := h1
        obtain ⟨h2, h4⟩ := h2
        exact e ((List.getElem_inj hnd).1 (h3.trans h4.symm))
      rw [upd_other _ _ hne]
      exact h.b k c (by omega) hc

set_option maxHeartbeats 4000000 in
set_option maxRecDepth 100000 in
theorem t86 {F : (Nat → Value) → Act} (hF : Fr 577 F) {w0 w : World} {E : Nat → Nat} {B : Nat → Lb} {n : Nat} {pst : List Nat} {pv : Value} {D f : Nat → Value} {R : Ending → World → Prop}
    (hn : n ≤ 100000) (hnd : pst.Nodup) (hpl : ∀ z ∈ pst, z < n)
    (hS : St w0 w 4 E B) (b0 : B 0 = vals 130 21 D) (b1 : B 1 = bx 46 pv) (b2 : ∃ cap, Sl E B 2 3 1 pst.length cap (ql pst) pv) (b3 : B 3 = ints (n + 1) (fun _ => 0) (fun _ => (n : Int) + 1)) (d1 : D 1 = .slice (some ⟨E 3, 0, none⟩) (n + 1) (n + 1))
    (h7 : f 7 = .int .i64 (n : Nat)) (h8 : f 8 = .int .i64 (n : Nat)) (h9 : f 9 = .pointer (some ⟨E 0, 0, none⟩)) (h13 : f 13 = .pointer (some ⟨E 1, 0, none⟩))
    (hR : ∀ w', DomOk w0 w' n (E 0) → R (.returned (.pointer (some ⟨E 0, 0, none⟩))) w') :
    ((Ybaz.f38.body.bind (codeAt 86)).getD .skip).wp Ybaz.prog (bodyPost Ybaz.prog Ybaz.f38 R) (F f) w := by
  conv => arg 2; whnf
  have hget := hF.get
  have hmk := hF.up
  refine wp_seq_hid (fun K HK => ?_)
  refine r86 hF hS hn h7 ?_
  intro x w1 g3 g6 hx hS1 x42 x43
  have x7 := (hx 7 (by omega) (by kernel_rfl)).trans h7
  have x8 := (hx 8 (by omega) (by kernel_rfl)).trans h8
  have x9 := (hx 9 (by omega) (by kernel_rfl)).trans h9
  have x13 := (hx 13 (by omega) (by kernel_rfl)).trans h13
  refine HK.out _ _ ?_
  clear HK hx h7 h8 h9 h13 K hS f
  obtain ⟨E2, hE2⟩ : ∃ E2, E2 = upd (upd E 4 g3) (4 + 1) g6 := ⟨_, rfl⟩
  obtain ⟨B2, hB2⟩ : ∃ B2, B2 = upd (upd B 4 (arr (n + 1) (fun _ => -1))) (4 + 1) (zrow 3 (n + 1) (.int .i64 0)) := ⟨_, rfl⟩
  have E0' : E2 0 = E 0 := by rw [hE2]; rfl
  have E1' : E2 1 = E 1 := by rw [hE2]; rfl
  have E4' : E2 4 = g3 := by rw [hE2]; rfl
  have E5' : E2 5 = g6 := by rw [hE2]; rfl
  have hP : Po w0 w1 E2 B2 n pst pv D (fun _ => -1) (fun _ => 0) := by
    refine ⟨by rw [hE2, hB2]; exact hS1, by rw [hB2]; exact b0, by rw [hB2]; exact b1, ?_, by rw [hB2]; exact b3, by rw [hB2]; rfl, by rw [hB2]; rfl, by rw [hE2]; exact d1⟩
    obtain ⟨c, hc⟩ := b2
    exact ⟨c, hc.congr (by rw [hE2]; rfl) (by rw [hB2]; rfl)⟩
  rw [← E4'] at x42
  rw [← E5'] at x43
  rw [← E0'] at x9
  rw [← E1'] at x13
  have HRR : Hid (∀ w', DomOk w0 w' n (E2 0) → R (.returned (.pointer (some ⟨E2 0, 0, none⟩))) w') := by rw [E0']; exact hR
  clear hE2 hB2 E0' E1' E4' E5' hS1 hR b0 b1 b2 b3 d1
  have hlen : pst.length ≤ 100000 := by have := nodup_le hnd hpl; omega
  obtain ⟨cp, hsl⟩ := hP.b2
  obtain ⟨pa, pc, rfl, hpa⟩ := hsl.form
  have k1 := hP.st.box (k := 1) (by omega) hP.b1
  have HP : Hid (Po w0 w1 E2 B2 n pst (.slice pa pst.length pc) D (fun _ => -1) (fun _ => 0)) := hP
  have HSL : Hid (Sl E2 B2 2 3 1 pst.length cp (ql pst) (.slice pa pst.length pc)) := hsl
  clear hP hsl
  refine wp_seq_hid (fun K HK => ?_)
  refine wp_seq_hid (fun K2 HK2 => ?_)
  go_wp2
  refine HK2.out _ _ ?_
  clear HK2 K2
  refine wp_block ?_
  refine wp_loop_ghost_k (fun g a w => ∃ f, a = F f ∧ ∃ B fc nx j, g + j = pst.length ∧ Po w0 w E2 B n pst (.slice pa pst.length pc) D fc nx ∧ Lk n pst fc nx j ∧ f 7 = .int .i64 (n : Nat) ∧ f 8 = .int .i64 (n : Nat) ∧ f 9 = .pointer (some ⟨E2 0, 0, none⟩) ∧ f 42 = .slice (some ⟨E2 4, 0, none⟩) (n + 1) (n + 1) ∧ f 43 = .slice (some ⟨E2 5, 0, none⟩) (n + 1) (n + 1) ∧ f 425 = .slice pa pst.length pc ∧ f 426 = .int .i64 (pst.length : Nat) ∧ f 427 = .int .i64 (j : Nat)) pst.length ⟨_, rfl, B2, _, _, 0, rfl, HP.out, ⟨fun _ _ => .inl rfl, fun _ _ h => absurd h (Nat.not_lt_zero _)⟩, by simp [fup_at, x7], by simp [fup_at, x8], by simp [fup_at, x9], by simp [fup_at, x42], by simp [fup_at, x43], by simp [fup_at], by simp [fup_at], by simp [fup_at]⟩ ?_
  clear HP HSL k1 x7 x8 x9 x13 x42 x43 x w1 B2
  rintro g _ w ⟨f, rfl, B, fc, nx, j, hgj, hP, hL, h7, h8, h9, h42, h43, h425, h426, h427⟩ J K1 hJ hK1
  have HJ : Hid _ := hJ
  have HK1 : Hid (∀ a' w', Handed J g a' w' → K1 a' w') := hK1
  have HP : Hid (Po w0 w E2 B n pst (.slice pa pst.length pc) D fc nx) := hP
  have HL : Hid (Lk n pst fc nx j) := hL
  clear hJ hK1 hP hL
  go_wp2
  refine hF.cond (by omega) rfl (fun h0 => ?_) (fun h0 => ?_)
  · have hj : j < pst.length := by simpa using h0
    clear h0
    obtain ⟨cp, hsl⟩ := HP.out.b2
    obtain ⟨u, ku, ⟨b, hb, rfl⟩, _⟩ := hsl.cell HP.out.st (by omega) (i := j) (by omega)
    obtain rfl := hpa (by omega)
    have hbn : b < n := hpl b (List.mem_of_getElem? hb)
    have k1 := HP.out.st.valAt (k := 0) (by omega) HP.out.b0 (i := 1) (by omega)
    rw [HP.out.d1] at k1
    obtain ⟨z, kz, hz0, hz1⟩ := HP.out.st.intAt (k := 3) (by omega) HP.out.b3 (i := b) (by omega)
    obtain ⟨up, rfl⟩ : ∃ m : Nat, z = m := ⟨z.toNat, by have : (0 : Int) ≤ z := hz0; omega⟩
    have hup : up ≤ n := by have : (up : Int) < (n : Int) + 1 := hz1; omega
    have k4 := HP.out.st.arr (k := 4) (by omega) HP.out.b4 (i := up) (by omega)
    have k4f := HP.out.st.frz 4 (by omega) up
    obtain ⟨v5, k5, _⟩ := HP.out.st.read 5 (by omega) (i := b) (by rw [HP.out.b5]; show b < n + 1; omega)
    have k5f := HP.out.st.frz 5 (by omega) b
    have k5' := HP.out.st.far 4 5 (by omega) (by omega) (by omega) up b (.int .i64 (b : Nat))
    rw [k5] at k5'
    have hz : (up : Int) < (n : Int) + 1 := hz1
    have hbz : (b : Int) < (n : Int) + 1 := by omega
    have hjz : (j : Int) < (pst.length : Int) := by omega
    clear hsl hz0 hz1
    have HB : Hid (pst[j]? = some b) := hb
    clear hb
    go_wp2
    obtain ⟨B3, hP3⟩ := HP.out.link up b (b : Int) (fc up)
    refine HK1.out _ _ ⟨g - 1, by omega, HJ.out _ _ _ ⟨_, rfl, B3, _, _, j + 1, by omega, hP3, HL.out.step hnd HB.out hup, by simp [fup_at, h7], by simp [fup_at, h8], by simp [fup_at, h9], by simp [fup_at, h42], by simp [fup_at, h43], by simp [fup_at, h425], by simp [fup_at, h426], by simp [fup_at]⟩⟩
  · have hj : j = pst.length := by
      have : ¬ j < pst.length := by simpa using h0
      omega
    clear h0
    subst hj
    go_wp2
    refine HK.out _ _ ?_
    clear HK HK1 HJ
    have hs := HP.out.st.perm 3 (fun k => match k with
      | 0 => 0
      | 1 => 4
      | _ => 5) (fun k hk => by match k, hk with
      | 0, _ => decide
      | 1, _ => decide
      | 2, _ => decide) (fun i hi k hk => by match i, hi, k, hk with
      | 0, _, 0, _ => simp
      | 0, _, 1, _ => simp
      | 0, _, 2, _ => simp
      | 1, _, 0, _ => simp
      | 1, _, 1, _ => simp
      | 1, _, 2, _ => simp
      | 2, _, 0, _ => simp
      | 2, _, 1, _ => simp
      | 2, _, 2, _ => simp)
    refine t93 hF (n := n) (fc := fc) (nx := nx) (rk := fun c => pst.idxOf c) (Pc := fun c => c ∈ pst) (D := D) hn (fun c hc => ?_) (fun c hc => ?_) (fun i hi => ?_) hs HP.out.b0 HP.out.b4 HP.out.b5 (by simp [fup_at, h7]) (by simp [fup_at, h8]) (by simp [fup_at, h9]) (by simp [fup_at, h42]) (by simp [fup_at, h43]) HRR.out
    · have hlt := List.idxOf_lt_length_iff.2 hc
      have hget : pst[pst.idxOf c]? = some c := by rw [List.getElem?_eq_getElem hlt, List.getElem_idxOf]
      rcases HL.out.b _ c hlt hget with h1 | ⟨k', h1, c', h2, h3⟩
      · exact .inl (by omega)
      · have hm := List.mem_of_getElem? h2
        have := hpl c' hm
        refine .inr ⟨c', h3, by omega, hm, ?_⟩
        have hle : pst.idxOf c' ≤ k' := by
          obtain ⟨h4, h5⟩ := List.getElem?_eq_some_iff.1 h2
          have := List.Nodup.idxOf_getElem hnd k' h4
          rw [h5] at this
          omega
        omega
    · have hlt := List.idxOf_lt_length_iff.2 hc
      have := nodup_le hnd hpl
      show pst.idxOf c ≤ n
      omega
    · rcases HL.out.a i hi with h1 | ⟨k', h1, c', h2, h3⟩
      · exact .inl (by omega)
      · have hm := List.mem_of_getElem? h2
        have := hpl c' hm
        exact .inr ⟨c', h3, by omega, hm⟩
end Go.Proofs.YbulkexmzaGreat
