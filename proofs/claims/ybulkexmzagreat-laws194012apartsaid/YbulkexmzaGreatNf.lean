/-
  THE LAW of newSinker (10).
-/
import Derived.Test.YbulkexmzaGreatNe
namespace Go.Proofs.YbulkexmzaGreat
open Go.RowKit
attribute [local go_sem] fup_at

/-- The sinker at sp; accessFrom at ga. -/
structure Nk (w0 w : World) (sp ga n : Nat) (D : Nat → Value) : Prop where
  s : w0.Since w0.heap.size w
  bs : w0.heap.size ≤ sp
  bg : w0.heap.size ≤ ga
  ne : ga ≠ sp
  row : RowOk w sp (vals 79 23 D)
  acc : RowOk w ga (zrow 3 (n + 1) (.int .i64 0))
  d5 : D 5 = .slice (some ⟨ga, 0, none⟩) (n + 1) (n + 1)
  d21 : D 21 = .pointer none
  d22 : D 22 = .int .i64 0
theorem vals_cell {w : World} {b n t : Nat} {D : Nat → Value} (h : RowOk w b (vals t n D)) {i : Nat} (hi : i < n) : w.cell? ⟨b, i, none⟩ = some (D i) := by
  obtain ⟨u, h1, h2⟩ := h.cell (i := i) hi
  have : u = D i := h2
  rw [h1, this]
theorem zrow_cell {w : World} {b n t : Nat} {z : Value} (h : RowOk w b (zrow t n z)) {i : Nat} (hi : i < n) : w.cell? ⟨b, i, none⟩ = some z := by
  obtain ⟨u, h1, h2⟩ := h.cell (i := i) hi
  have : u = z := h2
  rw [h1, this]
/-- What newSinker leaves. -/
def SinkOk (w0 w : World) (sp : Nat) : Prop := w0.Since w0.heap.size w ∧ w0.heap.size ≤ sp ∧ w.cell? ⟨sp, 21, none⟩ = some (.pointer none) ∧ w.cell? ⟨sp, 22, none⟩ = some (.int .i64 0)

set_option maxHeartbeats 4000000 in
set_option maxRecDepth 100000 in
theorem n25t {F : (Nat → Value) → Act} (hF : Fr 233 F) {w0 w : World} {n fb sp ga bb bo bc : Nat} {D f : Nat → Value} {R : Ending → World → Prop}
    (hk9 : w0.cell? ⟨fb, 9, none⟩ = some (.slice none 0 0)) (hk10 : w0.cell? ⟨fb, 10, none⟩ = some (.slice none 0 0)) (hk11 : w0.cell? ⟨fb, 11, none⟩ = some (.slice (some ⟨bb, bo, none⟩) n bc)) (hn : n ≤ 100000) (hK : Nk w0 w sp ga n D) (h0 : f 0 = .pointer (some ⟨fb, 0, none⟩)) (h8 : f 8 = .pointer (some ⟨sp, 0, none⟩))
    (hR : ∀ w', SinkOk w0 w' sp → R (.returned (.pointer (some ⟨sp, 0, none⟩))) w') :
    ((Ybaz.f10.body.bind (codeAt 25)).getD .skip).wp Ybaz.prog (bodyPost Ybaz.prog Ybaz.f10 R) (F f) w := by
  conv => arg 2; whnf
  have hget := hF.get
  have hmk := hF.up
  have HR : Hid (∀ w', SinkOk w0 w' sp → R (.returned (.pointer (some ⟨sp, 0, none⟩))) w') := hR
  have HK0 : Hid (Nk w0 w sp ga n D) := hK
  clear hR hK
  refine wp_seq_hid (fun K HK => ?_)
  refine wp_seq_hid (fun K2 HK2 => ?_)
  go_wp2
  refine HK2.out _ _ ?_
  clear HK2
  refine wp_block ?_
  refine wp_loop_ghost_k (fun g a w => ∃ f, a = F f ∧ ∃ i D, g + i = 2 ∧ w0.Since w0.heap.size w ∧ RowOk w sp (vals 79 23 D) ∧ D 21 = .pointer none ∧ D 22 = .int .i64 0 ∧ (0 < i → ∃ q, D 18 = .pointer (some ⟨q, 0, none⟩) ∧ w0.heap.size ≤ q ∧ sp ≠ q ∧ RowOk w q (zany 101 20)) ∧ f 0 = .pointer (some ⟨fb, 0, none⟩) ∧ f 8 = .pointer (some ⟨sp, 0, none⟩) ∧ f 172 = .int .i64 (i : Nat)) 2 ⟨_, rfl, 0, D, rfl, HK0.out.s, HK0.out.row, HK0.out.d21, HK0.out.d22, fun h => absurd h (Nat.lt_irrefl _), by simp [fup_at, h0], by simp [fup_at, h8], by simp [fup_at]⟩ ?_
  have hsp := HK0.out.bs
  clear HK0 h0 h8 f
  rintro g _ w1 ⟨f, rfl, i, D1, hg, hs, hrow, d21, d22, hq0, h0, h8, h172⟩ J K1 hJ hK1
  have HJ : Hid _ := hJ
  have HK1 : Hid (∀ a' w', Handed J g a' w' → K1 a' w') := hK1
  have HST : Hid (w0.Since w0.heap.size w1 ∧ RowOk w1 sp (vals 79 23 D1) ∧ D1 21 = .pointer none ∧ D1 22 = .int .i64 0 ∧ (0 < i → ∃ q, D1 18 = .pointer (some ⟨q, 0, none⟩) ∧ w0.heap.size ≤ q ∧ sp ≠ q ∧ RowOk w1 q (zany 101 20))) := ⟨hs, hrow, d21, d22, hq0⟩
  clear hJ hK1 hs hrow d21 d22 hq0
  refine wp_seq_hid (fun Ka HKa => ?_)
  go_wp2
  refine HKa.out _ _ ?_
  clear HKa
  refine wp_seq_hid (fun Kb HKb => ?_)
  refine hF.cond (by omega) rfl (fun hh => ?_) (fun hh => ?_)
  · have hi : i < 2 := by have := of_decide_eq_true hh; omega
    clear hh
    go_wp2
    refine HKb.out _ _ ?_
    clear HKb
    refine wp_seq_hid (fun K2 HK2 => ?_)
    refine wp_block ?_
    refine wp_seq_hid (fun K3 HK3 => ?_)
    go_wp2
    refine HK3.out _ _ ?_
    clear HK3
    obtain ⟨hs, hrow, d21, d22, hq0⟩ := HST.out
    refine n28 hF hs hk9 hk10 hsp hrow hi (by simp [fup_at, h0]) (by simp [fup_at, h8]) (by simp [fup_at]) ?_
    intro x w2 q D2 hx hs2 hrow2 hD2 hq2 bq2 nq2 rq2 hfr
    have x0 : x 0 = .pointer (some ⟨fb, 0, none⟩) := (hx 0 (by omega) (by kernel_rfl)).trans (by simp [fup_at, h0])
    have x8 : x 8 = .pointer (some ⟨sp, 0, none⟩) := (hx 8 (by omega) (by kernel_rfl)).trans (by simp [fup_at, h8])
    have x172 : x 172 = .int .i64 (i : Nat) := (hx 172 (by omega) (by kernel_rfl)).trans (by simp [fup_at, h172])
    have HS2 : Hid (w0.Since w0.heap.size w2 ∧ RowOk w2 sp (vals 79 23 D2) ∧ D2 21 = .pointer none ∧ D2 22 = .int .i64 0 ∧ (∃ q, D2 18 = .pointer (some ⟨q, 0, none⟩) ∧ w0.heap.size ≤ q ∧ sp ≠ q ∧ RowOk w2 q (zany 101 20))) := by
      refine ⟨hs2, hrow2, (hD2 21 (by omega)).trans d21, (hD2 22 (by omega)).trans d22, ?_⟩
      by_cases e : i = 0
      · subst e
        exact ⟨q, hq2, bq2, nq2, rq2⟩
      · obtain ⟨q', h1, h2, h3, h4⟩ := hq0 (by omega)
        exact ⟨q', (hD2 18 (by omega)).trans h1, h2, h3, h4.of_block (hfr q' h4.lt (Ne.symm h3))⟩
    refine HK2.out _ _ ?_
    clear HK2 hx h0 h8 h172 HST hs hrow hq0 hs2 hrow2 hD2 hq2 rq2 hfr
    have hil : i ≤ 2 := by omega
    go_wp2
    obtain ⟨a1, a2, a3, a4, a5⟩ := HS2.out
    exact HK1.out _ _ ⟨g - 1, by omega, HJ.out _ _ _ ⟨_, rfl, i + 1, D2, by omega, a1, a2, a3, a4, fun _ => a5, by simp [fup_at, x0], by simp [fup_at, x8], by simp [fup_at]⟩⟩
  · have hi : i = 2 := by have := of_decide_eq_false hh; omega
    clear hh HKb
    subst hi
    go_wp2
    refine HK.out _ _ ?_
    clear HK HK1 HJ
    obtain ⟨hs, hrow, d21, d22, hq0⟩ := HST.out
    obtain ⟨q, h1, h2, h3, h4⟩ := hq0 (by omega)
    refine wp_seq_hid (fun K HK => ?_)
    refine n30 hF hs hrow h4 h1 h2 h3 hk11 hn (by simp [fup_at, h0]) (by simp [fup_at, h8]) ?_
    intro x w2 hx hs2 hrow2
    have x8 : x 8 = .pointer (some ⟨sp, 0, none⟩) := (hx 8 (by omega) (by kernel_rfl)).trans (by simp [fup_at, h8])
    have HS2 : Hid (SinkOk w0 w2 sp) := ⟨hs2, hsp, by rw [← d21]; exact vals_cell hrow2 (by omega), by rw [← d22]; exact vals_cell hrow2 (by omega)⟩
    refine HK.out _ _ ?_
    clear HK hx hs2 hrow2 hs hrow h4 hq0 HST
    go_wp2
    exact hF.ret (t := 6) rfl (by omega) (by simp [fup_at]) (HR.out w2 HS2.out)
end Go.Proofs.YbulkexmzaGreat
