/-
  THE WALK over eval (59).
-/
import Derived.Test.YbulkexmzaGreatEt
namespace Go.Proofs.YbulkexmzaGreat
open Go.RowKit Go.Shelf

set_option maxHeartbeats 4000000 in
set_option maxRecDepth 100000 in
theorem eval_any {w0 w : World} {E : Nat → Nat} {B : Nat → Lb} {m : Nat} (h : Ev w0 w E B m) (hm : m ≤ 100001) {v : Nat} (hv : v < m) :
    Calls Ybaz.prog 59 #[.int .i64 (v : Nat), .pointer (some ⟨E 16, 0, none⟩), .pointer (some ⟨E 17, 0, none⟩), .pointer (some ⟨E 14, 0, none⟩), .pointer (some ⟨E 15, 0, none⟩)] w fun e w' =>
      ∃ (u : Nat) (E' : Nat → Nat) (B' : Nat → Lb), e = .returned (.int .i64 (u : Nat)) ∧ u < m ∧ Kev E E' B B' ∧ Ev w0 w' E' B' m := by
  obtain ⟨f, hst, hf⟩ := h.st.exact (k := 20) (by omega) h.b20
  have hfb : ∀ i, i < m → -1 ≤ f i ∧ f i < i := hf
  have k16 := h.st.box (by omega) h.b16
  have kv : w.cell? ⟨E 20, v, none⟩ = some (.int .i64 (f v)) := hst.arr (k := 20) (by omega) (upd_same _ _ _) hv
  have hvz : (v : Int) < (m : Int) := by omega
  have HE : Hid (Ev w0 w E B m) := h
  have HST : Hid (St w0 w 25 E (upd B 20 (arr m f))) := hst
  clear h hst hf
  by_cases hv0 : f v < 0
  · have hv0b : decide (f v < 0) = true := by simpa using hv0
    go_enter Ybaz.func59, Ybaz.ntmps59
    go_wp2
    go_ret
    exact ⟨v, E, B, rfl, hv, ⟨fun _ _ => rfl, fun _ _ _ => rfl⟩, HE.out⟩
  · have hv0b : decide (f v < 0) = false := by simpa using hv0
    obtain ⟨pv, len, cap, hb17, hP⟩ := HE.out.b17
    have k17 := HE.out.st.box (by omega) hb17
    have k17f := HE.out.st.frz 17 (by omega) 0
    obtain ⟨pa, pc, rfl, hpa⟩ := hP.form
    refine callsIn_wide.1 (callsIn_of_wp_marks (n := 9) Ybaz.func59 rfl trivial (wpIn_wide.2 ?_) rfl)
    simp only [Ybaz.ntmps59, List.size_toArray, List.length_cons, List.length_nil, Nat.reduceAdd, Nat.reduceSub, Array.replicate_succ, Array.replicate_zero, List.push_toArray, List.append_toArray, List.nil_append, List.cons_append]
    refine wp_seq_hid (fun K HK => ?_)
    go_wp2
    refine HK.out _ _ ?_
    clear HK K
    refine wp_seq_hid (fun K HK => ?_)
    go_wp2
    refine HK.out _ _ ?_
    clear HK K kv
    refine wp_seq_hid (fun K HK => ?_)
    go_wp2
    refine HK.out _ _ ?_
    clear HK K k16 k17 k17f
    obtain ⟨B1, hB1, hE1⟩ := HE.out.start HST.out hfb hb17 hP
    have HS1 : Hid (∃ E' B' ps, Ep w0 (w.setCell ⟨E 17, 0, none⟩ (.slice pa 0 pc)) E' B' m f ps ∧ Pth m f ps v ∧ (∀ k, k ≠ 21 → E' k = E k) ∧ ∀ k, k ≠ 17 → k ≠ 20 → k ≠ 21 → B' k = B k) := ⟨E, B1, [], hE1, ⟨fun y hy => by simp at hy, List.nodup_nil⟩, fun _ _ => rfl, hB1⟩
    clear hB1 hE1 HST hb17 hP
    generalize w.setCell ⟨E 17, 0, none⟩ (.slice pa 0 pc) = w1 at HS1 ⊢
    refine wp_seq_hid (fun K HK => ?_)
    go_wp2
    go_loopg [7] v (fun g s7 wx => ∃ x : Nat, x = g ∧ s7 = .int .i64 (x : Nat) ∧ x < m ∧ 0 ≤ f x ∧ ∃ E' B' ps, Ep w0 wx E' B' m f ps ∧ Pth m f ps x ∧ (∀ k, k ≠ 21 → E' k = E k) ∧ ∀ k, k ≠ 17 → k ≠ 20 → k ≠ 21 → B' k = B k)
    case atStart => exact ⟨v, rfl, rfl, hv, by omega, HS1.out⟩
    case round =>
      clear HS1
      obtain ⟨x, rfl, rfl, hx, hfx, E', B', ps, hP, hT, hKe, hKb⟩ := hrel
      have e16 := hKe 16 (by omega)
      have e17 := hKe 17 (by omega)
      have k16 := hP.st.box (k := 16) (by omega) hP.b16
      rw [e16] at k16
      have kx := hP.st.arr (k := 20) (by omega) hP.b20 hx
      have hxb := hfb x hx
      obtain ⟨y, hy⟩ : ∃ y : Nat, f x = y := ⟨(f x).toNat, by omega⟩
      rw [hy] at kx
      have ky := hP.st.arr (k := 20) (by omega) hP.b20 (i := y) (by omega)
      have hxz : (x : Int) < (m : Int) := by omega
      have hyz : (y : Int) < (m : Int) := by omega
      by_cases hfy : 0 ≤ f y
      · have hfyb : decide (0 ≤ f y) = true := by simpa using hfy
        obtain ⟨pv, c17, hb17, hSl⟩ := hP.b17
        obtain ⟨qa, qc, rfl, _⟩ := hSl.form
        have k17 := hP.st.box (k := 17) (by omega) hb17
        rw [e17] at k17
        have hpl : ps.length ≤ 100001 := by have := nodup_le hT.nd (fun z hz => (hT.lt z hz).1); omega
        have HP : Hid (Ep w0 wr E' B' m f ps) := hP
        have HSl : Hid (Sl E' B' 21 3 1 ps.length c17 (ql ps) (.slice qa ps.length qc)) := hSl
        have HT : Hid (Pth m f ps x) := hT
        have HKE : Hid ((∀ k, k ≠ 21 → E' k = E k) ∧ ∀ k, k ≠ 17 → k ≠ 20 → k ≠ 21 → B' k = B k) := ⟨hKe, hKb⟩
        clear hP hSl hT hKe hKb
        go_wp2_with fail
        go_quiet (fail)
        go_upto_region 6 with (at_builtin; refine wp_app ety3 rfl (.tmp 32) (.tmp 34) rfl HSl.out ((HP.out.drewN nq).st.alloc _) (by omega) rfl _ [.int .i64 (x : Nat)] rfl rfl (news1 _ _ _) (by simp [Value.oneCell']) (by omega) (ql (ps ++ [x])) (fun i u hi hq => ql_snoc (by omega) hq) (fun j u hj => ?zz) ?_; (case zz => exact ql_last hj); intro g3 d3 w3 hap; have k17' : w3.cell? ⟨E 17, 0, none⟩ = some (.slice qa ps.length qc) := (by rw [← e17]; exact hap.1.box (k := 17) (by omega) hb17); have k17f : w3.frozen? ⟨E 17, 0, none⟩ = false := (by rw [← e17]; exact hap.1.frz 17 (by omega) 0))
        obtain ⟨B2, hB2, hP2⟩ := (HP.out.drewN nq).push hb17 hap
        rw [e17] at hP2
        have HP2 : Hid (Ep w0 (w3.setCell ⟨E 17, 0, none⟩ (.slice (some ⟨g3, 0, none⟩) (ps.length + 1) d3)) (upd E' 21 g3) B2 m f (ps ++ [x])) := hP2
        have HB2 : Hid (∀ k, k ≠ 17 → k ≠ 21 → B2 k = B' k) := hB2
        clear hP2 hB2 hap k17 k17' k17f k16 kx ky HSl HP
        generalize w3.setCell ⟨E 17, 0, none⟩ (.slice (some ⟨g3, 0, none⟩) (ps.length + 1) d3) = w4 at HP2 ⊢
        have k16 : w4.cell? ⟨E 16, 0, none⟩ = some (.slice (some ⟨E' 20, 0, none⟩) m m) := by rw [← e16]; exact HP2.out.st.box (k := 16) (by omega) HP2.out.b16
        have kx : w4.cell? ⟨E' 20, x, none⟩ = some (.int .i64 (y : Nat)) := by rw [← hy]; exact HP2.out.st.arr (k := 20) (by omega) HP2.out.b20 hx
        have hyx : y < x := by omega
        have HNX : Hid (∃ E' B' ps, Ep w0 w4 E' B' m f ps ∧ Pth m f ps y ∧ (∀ k, k ≠ 21 → E' k = E k) ∧ ∀ k, k ≠ 17 → k ≠ 20 → k ≠ 21 → B' k = B k) := by
          refine ⟨upd E' 21 g3, B2, ps ++ [x], HP2.out, ⟨fun z hz => ?_, ?_⟩, fun k hk => by rw [upd_other _ _ hk]; exact HKE.out.1 k hk, fun k h1 h2 h3 => (HB2.out k h1 h3).trans (HKE.out.2 k h1 h2 h3)⟩
          · rcases List.mem_append.1 hz with h1 | h1
            · have := HT.out.lt z h1
              exact ⟨this.1, by omega, this.2.2⟩
            · have : z = x := by simpa using h1
              subst this
              exact ⟨hx, hyx, by omega, by rw [hy]; exact hfy⟩
          · refine List.nodup_append.2 ⟨HT.out.nd, by simp, fun a ha b hb => ?_⟩
            have : b = x := by simpa using hb
            have := (HT.out.lt a ha).2.1
            omega
        go_wp2
        go_roundg y
        case measure => go_light; exact hyx
        case rel => go_light; exact ⟨y, rfl, rfl, by omega, hfy, HNX.out⟩
      · have hfyb : decide (0 ≤ f y) = false := by simpa using hfy
        have HP : Hid (Ep w0 wr E' B' m f ps) := hP
        have HT : Hid (Pth m f ps x) := hT
        have HKE : Hid ((∀ k, k ≠ 21 → E' k = E k) ∧ ∀ k, k ≠ 17 → k ≠ 20 → k ≠ 21 → B' k = B k) := ⟨hKe, hKb⟩
        clear hP hT hKe hKb
        go_wp2_with fail
        go_quiet (fail)
        go_wp2
        refine HK.out _ _ ?_
        clear HK k16 kx ky
        have HP' : Hid (Ep w0 (wr.drewN nq) E' B' m f ps) := HP.out.drewN nq
        clear HP
        generalize wr.drewN nq = w2 at HP' ⊢
        have b20 := HE.out.b20
        have e14 := HKE.out.1 14 (by omega)
        have e15 := HKE.out.1 15 (by omega)
        rw [← e14, ← e15, ← e16, ← e17]
        refine eval_tail hm hv HP'.out (fun y hy => ⟨(HT.out.lt y hy).1, (HT.out.lt y hy).2.2⟩) HT.out.nd ?_
        intro u B3 w3 hu hB3 hE3
        exact ⟨u, E', B3, rfl, hu, ⟨HKE.out.1, fun k h1 h2 => by
          by_cases e : k = 20
          · subst e; rw [hE3.b20, b20]
          · exact (hB3 k e h2).trans (HKE.out.2 k h1 e h2)⟩, hE3⟩
end Go.Proofs.YbulkexmzaGreat
