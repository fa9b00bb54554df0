/-
  THE WALK over search (58), ir.newDominance's second closure.
-/
import Derived.Test.YbulkexmzaGreatSp
namespace Go.Proofs.YbulkexmzaGreat
open Go.RowKit

/-- A region that draws its order: its first n operations only read, the others follow in the text's order. -/
theorem region_tail {P : Program} {id : Nat} {Q : Exit → Act → World → Prop} {a : Act} {w : World} {l : List Oper} (n : Nat) (hm : P.follows .mixedOrders = true) (hB : Region.lexTailB .any l.toArray n = true)
    (h : wpStill P l.toArray w.drew (fun a' => wpList P l.toArray Q (l.drop n) a' w.drew) (l.take n) a) : (Code.region id l.toArray true).wp P Q a w :=
  wp_region_still_tail n hm hB h

theorem Ds.drew {w0 w : World} {E : Nat → Nat} {B : Nat → Lb} {n m : Nat} {f : Nat → Int} {stk : List (Nat × Nat)} {pst : List Nat} (h : Ds w0 w E B n m f stk pst) : Ds w0 w.drew E B n m f stk pst :=
  ⟨h.st.drew, h.b0, h.b5, h.b1, h.b2, h.b3, h.b4, h.fr, h.cnt, h.sv, h.pv, h.nd⟩
theorem Ds.drewN {w0 w : World} {E : Nat → Nat} {B : Nat → Lb} {n m : Nat} {f : Nat → Int} {stk : List (Nat × Nat)} {pst : List Nat} (h : Ds w0 w E B n m f stk pst) (k : Nat) : Ds w0 (w.drewN k) E B n m f stk pst := by
  induction k with
  | zero => exact h
  | succ k ih => exact ih.drew

/-- Between two rounds of the search. -/
def Sr (w0 : World) (E : Nat → Nat) (B : Nat → Lb) (n : Nat) (sc : Nat → Option Nat) (f0 : Nat → Int) (b0 : Nat) (g : Nat) (w : World) : Prop :=
  ∃ E' B' m f stk pst, Kept E E' B B' ∧ Ds w0 w E' B' n m f stk pst ∧ (∀ z ∈ stk, z.2 ≤ ns sc z.1) ∧ (∀ j, 0 ≤ f0 j → f j = f0 j) ∧ 0 ≤ f b0 ∧ g = 4 * (n + 1 - m) + wt sc stk

set_option maxHeartbeats 4000000 in
set_option maxRecDepth 100000 in
theorem search_any {w0 w : World} {E : Nat → Nat} {B : Nat → Lb} {n m : Nat} {f : Nat → Int} {pst : List Nat} {fb : Nat} {bk : Nat → Nat} {sc : Nat → Option Nat} (hC : Cfg w0 fb n bk sc) (h : Ds w0 w E B n m f [] pst) (hr : B 10 = bx 159 (reachV E)) (hf : B 11 = bx 56 (.pointer (some ⟨fb, 0, none⟩))) (hn : n ≤ 100000) {b : Nat} (hb : b < n) (hfb : f b < 0) :
    Calls Ybaz.prog 58 #[.int .i64 (b : Nat), .pointer (some ⟨E 10, 0, none⟩), .pointer (some ⟨E 4, 0, none⟩), .pointer (some ⟨E 11, 0, none⟩), .pointer (some ⟨E 0, 0, none⟩), .pointer (some ⟨E 3, 0, none⟩)] w fun e w' =>
      e = .returned (.tuple #[]) ∧ ∃ E' B' m' f' pst', Kept E E' B B' ∧ Ds w0 w' E' B' n m' f' [] pst' ∧ (∀ j, 0 ≤ f j → f' j = f j) ∧ 0 ≤ f' b := by
  have c10 := h.st.box (by omega) hr
  have hm1 : 0 < m := by have := h.cnt; omega
  have HC := reach_any h hn hb hfb hm1
  have HCH : Hid _ := HC
  have HF : Hid (Cfg w0 fb n bk sc) := hC
  simp only [reachV] at c10
  have HH : Hid (Ds w0 w E B n m f [] pst) := h
  clear h HC hC
  go_enter Ybaz.func58, Ybaz.ntmps58
  refine wp_seq_hid (fun K HK => ?_)
  go_wp2_with (go_at_call 57; refine Calls.mono HCH.out ?_; rintro e w1 ⟨rfl, E1, B1, hE, hB, hD⟩; dsimp only)
  refine HK.out _ _ ?_
  clear HK K c10
  have HR : Hid (Sr w0 E B n sc f b (4 * (n + 1 - (m + 1)) + wt sc [(b, 0)]) w1) := by
    refine ⟨E1, B1, m + 1, upd f b (m : Int), [(b, 0)], pst, ⟨fun k h6 h7 _ h9 => hE k h6 h7 h9, fun k hk => hB k (by omega)⟩, hD, fun z hz => ?_, fun j hj => ?_, ?_, rfl⟩
    · have : z = (b, 0) := by simpa using hz
      subst this; exact Nat.zero_le _
    · exact upd_other _ _ (fun e => by rw [e] at hj; omega)
    · rw [upd_same]; omega
  clear HCH HH hE hB hD
  go_wp2
  go_loopg [7] (4 * (n + 1 - (m + 1)) + wt sc [(b, 0)]) (fun g s7 wx => Sr w0 E B n sc f b g wx)
  case atStart => exact HR.out
  case round =>
    clear HR E1 B1
    obtain ⟨E', B', m', f', stk, pst', hK, hD, hnx, hmon, hbv, rfl⟩ := hrel
    have e0 := hK.e 0 (by omega) (by omega) (by omega) (by omega)
    have e1 := hK.e 1 (by omega) (by omega) (by omega) (by omega)
    have e2 := hK.e 2 (by omega) (by omega) (by omega) (by omega)
    have e3 := hK.e 3 (by omega) (by omega) (by omega) (by omega)
    have e4 := hK.e 4 (by omega) (by omega) (by omega) (by omega)
    have e10 := hK.e 10 (by omega) (by omega) (by omega) (by omega)
    have e11 := hK.e 11 (by omega) (by omega) (by omega) (by omega)
    obtain ⟨v4, c4, hb4, hT⟩ := hD.b4
    have k4 := hD.st.box (by omega) hb4
    rw [e4] at k4
    rcases List.eq_nil_or_concat stk with rfl | ⟨s, z, rfl⟩
    · obtain ⟨ta, tc, rfl, _⟩ := hT.form
      have HE : Hid (∃ E' B' m' f' pst', Kept E E' B B' ∧ Ds w0 wr E' B' n m' f' [] pst' ∧ (∀ j, 0 ≤ f j → f' j = f j) ∧ 0 ≤ f' b) := ⟨E', B', m', f', pst', hK, hD, hmon, hbv⟩
      clear hK hD hnx hmon hbv hT
      go_wp2
      go_end0
      exact ⟨rfl, HE.out⟩
    · obtain ⟨bq, x⟩ := z
      rcases hT with ⟨_, h0⟩ | ⟨rfl, h9, hle, hmx⟩
      · simp at h0
      simp only [List.concat_eq_append] at *
      have hl : (s ++ [(bq, x)]).length = s.length + 1 := by simp
      rw [hl] at h9 hle k4 hb4
      have hbq := hD.sv (bq, x) (by simp)
      have hxn := hnx (bq, x) (by simp)
      simp only at hbq hxn
      have hsl : s.length ≤ 100000 := by
        have h1 : (List.map (fun z : Nat × Nat => z.1) (s ++ [(bq, x)])).Nodup := (List.nodup_append.1 hD.nd).1
        have h2 : ∀ z ∈ List.map (fun z : Nat × Nat => z.1) (s ++ [(bq, x)]), z < n := fun z hz => by
          obtain ⟨y, hy, rfl⟩ := List.mem_map.1 hz
          exact (hD.sv y hy).1
        have := nodup_le h1 h2
        simp at this; omega
      have top : ∀ i, i < 2 → wr.cell? ⟨E' 9, s.length * 2 + i, none⟩ = some (.int .i64 ((if i = 0 then bq else x : Nat) : Int)) := fun i hi => by
        obtain ⟨u, h1, h2⟩ := hD.st.read 9 (by omega) (i := s.length * 2 + i) (by rw [h9]; show _ < c4 * 2; omega)
        rw [h9] at h2
        obtain ⟨z, h3, h4⟩ := h2 (by omega)
        rw [show (s.length * 2 + i) / 2 = s.length by omega] at h3
        simp at h3
        subst h3
        rw [h1, h4]
        rcases (show i = 0 ∨ i = 1 by omega) with rfl | rfl
        · simp
        · rw [if_neg (by omega)]; simp
      have t0 : wr.cell? ⟨E' 9, s.length * 2, none⟩ = some (.int .i64 (bq : Nat)) := top 0 (by omega)
      have t1 : wr.cell? ⟨E' 9, s.length * 2 + 1, none⟩ = some (.int .i64 (x : Nat)) := top 1 (by omega)
      have t1f := hD.st.frz 9 (by omega) (s.length * 2 + 1)
      have k11 : wr.cell? ⟨E 11, 0, none⟩ = some (.pointer (some ⟨fb, 0, none⟩)) := by
        rw [← e11]; exact hD.st.box (by omega) (by rw [hK.b 11 (by omega)]; exact hf)
      have hCf := HF.out.since hD.st.since
      obtain ⟨bb, bo, bc, q1, q2⟩ := hCf.blocks
      have q3 := q2 bq hbq.1
      have hbz : (bq : Int) < (n : Int) := by omega
      have hslz : (0 : Int) < (s.length : Int) + 1 := by omega
      clear top
      -- the way back up
      have POP : x = ns sc bq → ∀ (wa w3 : World) (g d : Nat), Appd w0 wa 14 E' B' 8 3 1 pst'.length (ql (pst' ++ [bq])) g d w3 →
          Sr w0 E B n sc f b (4 * (n + 1 - m') + wt sc s) ((w3.setCell ⟨E 3, 0, none⟩ (.slice (some ⟨g, 0, none⟩) (pst'.length + 1) d)).setCell ⟨E 4, 0, none⟩ (.slice (some ⟨E' 9, 0, none⟩) s.length c4)) := fun _ wa w3 g d hap => by
        obtain ⟨v3, _, hb3, _⟩ := hD.b3
        obtain ⟨B2, hk2, hD2⟩ := hD.pop hb4 h9 ⟨hle, hmx⟩ hb3 hap
        rw [e3, e4] at hD2
        exact ⟨_, B2, m', f', s, _, hK.trans hk2, hD2, fun z hz => hnx z (List.mem_append_left _ hz), hmon, hbv, rfl⟩
      have HPOP : Hid _ := POP
      have HD' : Hid (Ds w0 wr E' B' n m' f' (s ++ [(bq, x)]) pst') := hD
      have HKp : Hid (Kept E E' B B') := hK
      have HM : Hid ((∀ z ∈ s ++ [(bq, x)], z.2 ≤ ns sc z.1) ∧ (∀ j, 0 ≤ f j → f' j = f j) ∧ 0 ≤ f' b) := ⟨hnx, hmon, hbv⟩
      have hcs := hCf.succ bq hbq.1
      have hci := hCf.id
      have HB4 : Hid (B' 4 = bx 156 (.slice (some ⟨E' 9, 0, none⟩) (s.length + 1) c4)) := hb4
      clear POP hD hK hnx hmon hbv hCf q2 h9 hb4
      have hle' : s.length ≤ c4 := by omega
      refine wp_seq_hid (fun K1 HK1 => ?_)
      go_wp2
      refine HK1.out _ _ ?_
      clear HK1 K1
      refine wp_block ?_
      refine wp_seq_hid (fun K1 HK1 => ?_)
      go_wp2
      refine HK1.out _ _ ?_
      clear HK1 K1
      refine wp_seq_hid (fun KP HKP => ?_)
      rcases hcs with ⟨hs0, q4⟩ | ⟨t, sb, so, cc, hs1, htn, q4, q5⟩
      · have hx0 : x = 0 := by simp [ns, hs0] at hxn; exact hxn
        subst hx0
        go_wp2_with fail
        go_quiet (fail)
        go_wp2
        refine HKP.out _ _ ?_
        refine search_pop (HD'.out.drewN _) e3 e4 hsl hn HB4.out hle (by simpa using t0) ?_
        intros
        have HN : Hid _ := HPOP.out (by simp [ns, hs0]) _ _ _ _ ‹Appd _ _ _ _ _ _ _ _ _ _ _ _ _›
        go_wp2
        go_roundg (4 * (n + 1 - m') + wt sc s)
        case measure => go_light; rw [wt_append]; simp [wt]; omega
        case rel => go_light; exact HN.out
      · have hns : ns sc bq = 1 := by simp [ns, hs1]
        by_cases hx1 : x = 0
        · subst hx1
          have q6 := hci t htn
          go_wp2_with fail
          go_quiet (fail)
          go_upto_region 7 with fail
          obtain ⟨B2, hB2, hD2⟩ := (HD'.out.drewN nq).next
          have HD2 : Hid (Ds w0 ((wr.drewN nq).setCell ⟨E' 9, s.length * 2 + 1, none⟩ (.int .i64 1)) E' B2 n m' f' (s ++ [(bq, 1)]) pst') := hD2
          have HB2 : Hid (∀ k, k ≠ 9 → B2 k = B' k) := hB2
          clear hB2 hD2 k4 t0 t1 t1f k11 q1 q3 q4 q5 q6 HPOP HD' HB4 HKP
          generalize (wr.drewN nq).setCell ⟨E' 9, s.length * 2 + 1, none⟩ (.int .i64 1) = w2 at HD2 ⊢
          have k0 : w2.cell? ⟨E 0, 0, none⟩ = some (.slice (some ⟨E' 5, 0, none⟩) n n) := by rw [← e0]; exact HD2.out.st.box (by omega) HD2.out.b0
          have k5 : w2.cell? ⟨E' 5, t, none⟩ = some (.int .i64 (f' t)) := HD2.out.st.arr (by omega) HD2.out.b5 htn
          have htz : (t : Int) < (n : Int) := by omega
          have hK2 : Kept E E' B B2 := ⟨HKp.out.e, fun k hk => (HB2.out k (by omega)).trans (HKp.out.b k hk)⟩
          have hm' : m' ≤ n + 1 := by have := HD2.out.cnt; have := cntV_le f' n; omega
          have hst2 : ∀ z ∈ s ++ [(bq, 1)], z.2 ≤ ns sc z.1 := fun z hz => by
            rcases List.mem_append.1 hz with h1 | h1
            · exact HM.out.1 z (List.mem_append_left _ h1)
            · have : z = (bq, 1) := by simpa using h1
              subst this; rw [hns]; exact Nat.le_refl _
          have HK2 : Hid (Kept E E' B B2) := hK2
          have HS2 : Hid (∀ z ∈ s ++ [(bq, 1)], z.2 ≤ ns sc z.1) := hst2
          clear hK2 hst2 HKp HB2
          by_cases hft : f' t < 0
          · have hftb : decide (f' t < 0) = true := by simpa using hft
            obtain ⟨fr, hfr⟩ : ∃ fr : Nat, f' bq = fr := ⟨(f' bq).toNat, by have := hbq.2; omega⟩
            have hfrm : fr < m' := by have := (HD2.out.fr bq hbq.1).2; omega
            have hRch := reach_any HD2.out.drew hn htn hft hfrm
            rw [e0, e1, e2, e4] at hRch
            have HRC : Hid _ := hRch
            clear hRch
            have k10 : w2.cell? ⟨E 10, 0, none⟩ = some (reachV E) := by rw [← e10]; exact HD2.out.st.box (by omega) (by rw [HK2.out.b 10 (by omega)]; exact hr)
            simp only [reachV] at k10
            have k6 : w2.cell? ⟨E' 5, bq, none⟩ = some (.int .i64 fr) := by rw [← hfr]; exact HD2.out.st.arr (by omega) HD2.out.b5 hbq.1
            have k7 : w2.cell? ⟨E' 9, s.length * 2, none⟩ = some (.int .i64 (bq : Nat)) := by
              obtain ⟨v, c, _, hT⟩ := HD2.out.b4
              obtain ⟨u, h1, h2, _⟩ := hT.cell HD2.out.st (by omega) (i := s.length * 2) (by simp)
              obtain ⟨z, h3, h4⟩ := h2
              rw [show s.length * 2 / 2 = s.length by omega] at h3
              simp at h3
              subst h3
              rw [h1, h4, if_pos (by omega)]
            clear hfr
            go_upto_region 8 with fail
            refine region_tail 9 (by kernel_rfl) (by kernel_rfl) ?_
            simp only [List.take_succ_cons, List.take_zero, List.drop_succ_cons, List.drop_zero]
            iterate 9 still_step
            refine wpStill_nil ?_
            clear k0 k5 k10 k6 k7
            go_wp2_with (go_at_call 57; refine Calls.mono HRC.out ?_; rintro e w3 ⟨rfl, E3, B3, hE3, hB3, hD3⟩)
            have HN : Hid (Sr w0 E B n sc f b (4 * (n + 1 - (m' + 1)) + wt sc (s ++ [(bq, 1)] ++ [(t, 0)])) w3) := by
              refine ⟨E3, B3, m' + 1, upd f' t (m' : Int), s ++ [(bq, 1)] ++ [(t, 0)], pst', HK2.out.trans ⟨fun k h6 h7 _ h9 => hE3 k h6 h7 h9, fun k hk => hB3 k (by omega)⟩, hD3, fun z hz => ?_, fun j hj => ?_, ?_, rfl⟩
              · rcases List.mem_append.1 hz with h1 | h1
                · exact HS2.out z h1
                · have : z = (t, 0) := by simpa using h1
                  subst this; exact Nat.zero_le _
              · have := HM.out.2.1 j hj
                rw [upd_other _ _ (fun e => by rw [e] at this hj; omega)]; exact this
              · have := HM.out.2.2
                by_cases e : b = t
                · rw [e, upd_same]; omega
                · rw [upd_other _ _ e]; exact this
            clear hE3 hB3 hD3
            go_roundg (4 * (n + 1 - (m' + 1)) + wt sc (s ++ [(bq, 1)] ++ [(t, 0)]))
            case measure =>
              go_light
              have h1 := ns_le sc t
              have h2 : m' ≤ n := by
                have := HD2.out.cnt
                have h3 := cntV_upd f' htn hft (z := 0) (by omega)
                have h4 := cntV_le (upd f' t 0) n
                omega
              simp only [wt_append, wt, hns]
              omega
            case rel => go_light; exact HN.out
          · have hftb : decide (f' t < 0) = false := by simpa using hft
            have HN : Hid (Sr w0 E B n sc f b (4 * (n + 1 - m') + wt sc (s ++ [(bq, 1)])) w2) := ⟨E', B2, m', f', _, pst', HK2.out, HD2.out, HS2.out, HM.out.2.1, HM.out.2.2, rfl⟩
            go_wp2
            go_roundg (4 * (n + 1 - m') + wt sc (s ++ [(bq, 1)]))
            case measure =>
              go_light
              simp only [wt_append, wt, hns]
              omega
            case rel => go_light; exact HN.out
        · obtain rfl : x = 1 := by omega
          go_wp2_with fail
          go_quiet (fail)
          go_wp2
          refine HKP.out _ _ ?_
          refine search_pop (HD'.out.drewN _) e3 e4 hsl hn HB4.out hle (by simpa using t0) ?_
          intros
          have HN : Hid _ := HPOP.out hns.symm _ _ _ _ ‹Appd _ _ _ _ _ _ _ _ _ _ _ _ _›
          go_wp2
          go_roundg (4 * (n + 1 - m') + wt sc s)
          case measure => go_light; rw [wt_append]; simp [wt]; omega
          case rel => go_light; exact HN.out
end Go.Proofs.YbulkexmzaGreat
