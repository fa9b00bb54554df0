/-
  THE WALK over reach (57), ir.newDominance's first closure.
-/
import Derived.Test.YbulkexmzaGreatDs
namespace Go.Proofs.YbulkexmzaGreat
open Go.RowKit

theorem ql_snoc {xs : List Nat} {z i : Nat} {u : Value} (h : i < xs.length) (hq : ql xs i u) : ql (xs ++ [z]) i u := by
  obtain ⟨y, h1, h2⟩ := hq
  exact ⟨y, by rw [List.getElem?_append_left h]; exact h1, h2⟩
theorem qs_snoc {xs : List (Nat × Nat)} {z : Nat × Nat} {i : Nat} {u : Value} (h : i < xs.length * 2) (hq : qs xs i u) : qs (xs ++ [z]) i u := by
  obtain ⟨y, h1, h2⟩ := hq
  exact ⟨y, by rw [List.getElem?_append_left (by omega)]; exact h1, h2⟩

theorem qs_last {xs : List (Nat × Nat)} {b j : Nat} {u : Value} (hj : [Value.int .i64 (b : Nat), .int .i64 0][j]? = some u) : qs (xs ++ [(b, 0)]) (xs.length * 2 + j) u := by
  match j, hj with
  | 0, hj =>
    simp at hj; subst hj
    exact ⟨(b, 0), by rw [show (xs.length * 2 + 0) / 2 = xs.length by omega]; simp, by simp⟩
  | 1, hj =>
    simp at hj; subst hj
    exact ⟨(b, 0), by rw [show (xs.length * 2 + 1) / 2 = xs.length by omega]; simp, by simp⟩
  | k + 2, hj => simp at hj
/-- No more than n different numbers below n. -/
theorem nodup_le {l : List Nat} {n : Nat} (h : l.Nodup) (hl : ∀ z ∈ l, z < n) : l.length ≤ n := by
  induction n generalizing l with
  | zero =>
    match l, hl with
    | [], _ => exact Nat.le_refl _
    | z :: r, hl => exact absurd (hl z (by simp)) (Nat.not_lt_zero _)
  | succ n ih =>
    by_cases hm : n ∈ l
    · have := ih (h.erase n) (fun z hz => by
        have h1 := (h.mem_erase_iff).1 hz
        have := hl z h1.2
        have := h1.1
        omega)
      rw [List.length_erase_of_mem hm] at this
      omega
    · have := ih h (fun z hz => by
        have := hl z hz
        have : z ≠ n := fun e => hm (e ▸ hz)
        omega)
      omega

set_option maxHeartbeats 2000000 in
set_option maxRecDepth 100000 in
theorem reach_any {w0 w : World} {E : Nat → Nat} {B : Nat → Lb} {n m : Nat} {f : Nat → Int} {stk : List (Nat × Nat)} {pst : List Nat} (h : Ds w0 w E B n m f stk pst) (hn : n ≤ 100000) {b fr : Nat} (hb : b < n) (hfb : f b < 0) (hfr : fr < m) :
    Calls Ybaz.prog 57 #[.int .i64 (b : Nat), .int .i64 (fr : Nat), .pointer (some ⟨E 1, 0, none⟩), .pointer (some ⟨E 0, 0, none⟩), .pointer (some ⟨E 2, 0, none⟩), .pointer (some ⟨E 4, 0, none⟩)] w fun e w' =>
      e = .returned (.tuple #[]) ∧ ∃ E' B', (∀ k, k ≠ 6 → k ≠ 7 → k ≠ 9 → E' k = E k) ∧ (∀ k, k = 3 ∨ k = 8 ∨ 10 ≤ k → B' k = B k) ∧ Ds w0 w' E' B' n (m + 1) (upd f b (m : Int)) (stk ++ [(b, 0)]) pst := by
  have c0 := h.st.box (by omega) h.b0
  obtain ⟨vv, cv, hb1, hV⟩ := h.b1
  obtain ⟨pv, cp, hb2, hP⟩ := h.b2
  obtain ⟨sv, cs, hb4, hT⟩ := h.b4
  have c1 := h.st.box (by omega) hb1
  have c5 := h.st.arr (by omega) h.b5 hb
  have f5 := h.st.frz 5 (by omega) b
  have hbz : (b : Int) < (n : Int) := by omega
  obtain ⟨va, vc, rfl, _⟩ := hV.form
  obtain ⟨pa, pc, rfl, _⟩ := hP.form
  obtain ⟨sa, sc, rfl, _⟩ := hT.form
  have hm : m ≤ 100001 := by have := h.cnt; have := cntV_le f n; omega
  have hsl : stk.length ≤ 100000 := by
    have h1 : (stk.map (·.1)).Nodup := (List.nodup_append.1 h.nd).1
    have h2 : ∀ z ∈ stk.map (·.1), z < n := fun z hz => by
      obtain ⟨y, hy, rfl⟩ := List.mem_map.1 hz
      exact (h.sv y hy).1
    have := nodup_le h1 h2
    simp at this; omega
  have HS : Hid (St w0 (w.setCell ⟨E 5, b, none⟩ (.int .i64 (m : Nat))) 14 E (upd B 5 (arr n (upd f b (m : Int))))) :=
    h.st.set 5 (by omega) (arr n (upd f b (m : Int))) (by rw [h.b5]; rfl) (by rw [h.b5]; rfl) (by show Value.int .i64 _ = _; rw [upd_same]) (fun j u hj _ hu => by
      rw [h.b5] at hu
      show u = _
      rw [upd_other _ _ hj]; exact hu)
  have HV : Hid (Sl E (upd B 5 (arr n (upd f b (m : Int)))) 6 3 1 m cv (qv n) (.slice va m vc)) := hV
  have HP : Hid (Sl E (upd B 5 (arr n (upd f b (m : Int)))) 7 3 1 m cp qp (.slice pa m pc)) := hP
  have HT : Hid (Sl E (upd B 5 (arr n (upd f b (m : Int)))) 9 158 2 stk.length cs (qs stk) (.slice sa stk.length sc)) := hT
  have HD : Hid (Ds w0 w E B n m f stk pst) := h
  clear h hV hP hT
  go_enter Ybaz.func57, Ybaz.ntmps57
  refine wp_seq_hid (fun K HK => ?_)
  go_wp2
  refine HK.out _ _ ?_
  clear HK K c0 c1 c5 f5
  generalize w.setCell ⟨E 5, b, none⟩ (.int .i64 (m : Nat)) = w1 at HS ⊢
  refine wp_seq_hid (fun K HK => ?_)
  refine reach_r1 HS hb1 hb2 HV HP hb hfr hm ?_
  intro _ _ _ _ _ _ _ _ g1 d1 g2 d2 wq hTwo
  show K _ _
  refine HK.out _ _ ?_
  clear HK K HS HV HP
  -- the two boxes
  obtain ⟨hq, hd1, hd1', hd2, hd2'⟩ := hTwo
  have s1 := hq.set 1 (by omega) (bx 46 (.slice (some ⟨g1, 0, none⟩) (m + 1) d1)) (by show 46 = (B 1).t; rw [hb1]; rfl) (by show 1 = (B 1).n; rw [hb1]; rfl) (i := 0) rfl (fun j u hj hlt _ => by
    have : j < (B 1).n := hlt
    rw [hb1] at this
    have : j < 1 := this
    omega)
  have s2 := s1.set 2 (by omega) (bx 46 (.slice (some ⟨g2, 0, none⟩) (m + 1) d2)) (by show 46 = (B 2).t; rw [hb2]; rfl) (by show 1 = (B 2).n; rw [hb2]; rfl) (i := 0) rfl (fun j u hj hlt _ => by
    have : j < (B 2).n := hlt
    rw [hb2] at this
    have : j < 1 := this
    omega)
  have HS2 : Hid (St w0 ((wq.setCell ⟨E 1, 0, none⟩ (.slice (some ⟨g1, 0, none⟩) (m + 1) d1)).setCell ⟨E 2, 0, none⟩ (.slice (some ⟨g2, 0, none⟩) (m + 1) d2)) 14 (upd (upd E 6 g1) 7 g2) (upd (upd (upd (upd (upd B 5 (arr n (upd f b (m : Int)))) 6 (gl 3 1 (m + 1) d1 (qv n))) 7 (gl 3 1 (m + 1) d2 qp)) 1 (bx 46 (.slice (some ⟨g1, 0, none⟩) (m + 1) d1))) 2 (bx 46 (.slice (some ⟨g2, 0, none⟩) (m + 1) d2)))) := s2
  clear hq s1 s2
  generalize (wq.setCell ⟨E 1, 0, none⟩ (.slice (some ⟨g1, 0, none⟩) (m + 1) d1)).setCell ⟨E 2, 0, none⟩ (.slice (some ⟨g2, 0, none⟩) (m + 1) d2) = w2 at HS2 ⊢
  have k4 : w2.cell? ⟨E 4, 0, none⟩ = some (.slice sa stk.length sc) := HS2.out.box (k := 4) (by omega) hb4
  have HT2 : Hid (Sl (upd (upd E 6 g1) 7 g2) (upd (upd (upd (upd (upd B 5 (arr n (upd f b (m : Int)))) 6 (gl 3 1 (m + 1) d1 (qv n))) 7 (gl 3 1 (m + 1) d2 qp)) 1 (bx 46 (.slice (some ⟨g1, 0, none⟩) (m + 1) d1))) 2 (bx 46 (.slice (some ⟨g2, 0, none⟩) (m + 1) d2))) 9 158 2 stk.length cs (qs stk) (.slice sa stk.length sc)) := HT.out
  clear HT
  go_wp2_with (at_builtin; refine wp_app ety158 rfl (.tmp 21) (.tmp 24) rfl HT2.out (HS2.out.alloc _) (by omega) rfl _ [.int .i64 (b : Nat), .int .i64 0] rfl rfl (news2 _ _ _ _) (by simp [Value.oneCell']) (by omega) (qs (stk ++ [(b, 0)])) (fun i u hi hq => qs_snoc hi hq) (fun j u hj => ?zz) ?_; (case zz => exact qs_last hj); intro g3 d3 w3 hap; have k4' : w3.cell? ⟨E 4, 0, none⟩ = some (.slice sa stk.length sc) := hap.1.box (k := 4) (by omega) hb4; have k4f : w3.frozen? ⟨E 4, 0, none⟩ = false := hap.1.frz 4 (by omega) 0)
  go_end0
  refine ⟨rfl, upd (upd (upd E 6 g1) 7 g2) 9 g3, upd (upd (upd (upd (upd (upd (upd B 5 (arr n (upd f b (m : Int)))) 6 (gl 3 1 (m + 1) d1 (qv n))) 7 (gl 3 1 (m + 1) d2 qp)) 1 (bx 46 (.slice (some ⟨g1, 0, none⟩) (m + 1) d1))) 2 (bx 46 (.slice (some ⟨g2, 0, none⟩) (m + 1) d2))) 9 (gl 158 2 (stk.length + 1) d3 (qs (stk ++ [(b, 0)])))) 4 (bx 156 (.slice (some ⟨g3, 0, none⟩) (stk.length + 1) d3)), fun k h6 h7 h9 => ?_, fun k hk => ?_, ?_⟩
  · rw [upd_other _ _ h9, upd_other _ _ h7, upd_other _ _ h6]
  · rw [upd_other _ _ (by omega), upd_other _ _ (by omega), upd_other _ _ (by omega), upd_other _ _ (by omega), upd_other _ _ (by omega), upd_other _ _ (by omega), upd_other _ _ (by omega)]
  · have hD := HD.out
    have hst := hap.1.set 4 (by omega) (bx 156 (.slice (some ⟨g3, 0, none⟩) (stk.length + 1) d3)) (by show 156 = (B 4).t; rw [hb4]; rfl) (by show 1 = (B 4).n; rw [hb4]; rfl) (i := 0) rfl (fun j u hj hlt _ => by
      have : j < (B 4).n := hlt
      rw [hb4] at this
      have : j < 1 := this
      omega)
    have hcap := hap.2.1.caps (by omega)
    refine ⟨hst, ?_, rfl, ⟨_, d1, rfl, .inr ⟨rfl, rfl, hd1, hd1'⟩⟩, ⟨_, d2, rfl, .inr ⟨rfl, rfl, hd2, hd2'⟩⟩, ?_, ⟨_, d3, rfl, ?_⟩, ?_, ?_, ?_, ?_, ?_⟩
    · exact hD.b0
    · obtain ⟨v, c, h1, h2⟩ := hD.b3
      exact ⟨v, c, h1, h2⟩
    · rw [List.length_append]
      exact .inr ⟨rfl, rfl, hcap.1, hcap.2⟩
    · intro z hz
      have := hD.fr z hz
      by_cases e : z = b
      · subst e; rw [upd_same]; omega
      · rw [upd_other _ _ e]; omega
    · rw [cntV_upd f hb hfb (by omega)]; have := hD.cnt; omega
    · intro z hz
      rcases List.mem_append.1 hz with h1 | h1
      · have := hD.sv z h1
        have hne : z.1 ≠ b := fun e => by rw [e] at this; omega
        rw [upd_other _ _ hne]; exact this
      · have : z = (b, 0) := by simpa using h1
        subst this
        rw [upd_same]; exact ⟨hb, by omega⟩
    · intro z hz
      have := hD.pv z hz
      have hne : z ≠ b := fun e => by rw [e] at this; omega
      rw [upd_other _ _ hne]; exact this
    · have hnd := hD.nd
      have hnb : b ∉ stk.map (·.1) ++ pst := fun hm => by
        rcases List.mem_append.1 hm with h1 | h1
        · obtain ⟨y, hy, rfl⟩ := List.mem_map.1 h1
          have := (hD.sv y hy).2; omega
        · have := (hD.pv b h1).2; omega
      have e : List.map (fun z : Nat × Nat => z.1) (stk ++ [(b, 0)]) ++ pst = stk.map (·.1) ++ (b :: pst) := by simp
      rw [e]
      exact (List.perm_middle (a := b) (l₁ := stk.map (·.1)) (l₂ := pst)).nodup_iff.2 (List.nodup_cons.2 ⟨hnb, hnd⟩)
end Go.Proofs.YbulkexmzaGreat
