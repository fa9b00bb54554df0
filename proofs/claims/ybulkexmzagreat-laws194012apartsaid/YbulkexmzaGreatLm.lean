/-
  THE LAW of Liveness (19).
-/
import Derived.Test.YbulkexmzaGreatLl
namespace Go.Proofs.YbulkexmzaGreat
open Go.RowKit
attribute [local go_sem] fup_at

set_option maxHeartbeats 4000000 in
set_option maxRecDepth 100000 in
theorem l0t {F : (Nat → Value) → Act} (hF : Fr 371 F) {w0 : World} {n fb ac : Nat} {aa : Option Addr} {f : Nat → Value} {bk : Nat → Nat} {sc : Nat → Option Nat} {R : Ending → World → Prop}
    (hC : Cfg w0 fb n bk sc) (hn : n ≤ 100000) (hn1 : 1 ≤ n) (hres : w0.cell? ⟨fb, 5, none⟩ = some (.pointer none)) (h0 : f 0 = .pointer (some ⟨fb, 0, none⟩)) (h1 : f 1 = .int .i64 0) (h2 : f 2 = .slice aa 0 ac)
    (hR : ∀ lv w', w0.Since w0.heap.size w' → R (.returned (.pointer (some ⟨lv, 0, none⟩))) w') :
    (Ybaz.f19.body.getD .skip).wp Ybaz.prog (bodyPost Ybaz.prog Ybaz.f19 R) (F f) w0 := by
  conv => arg 2; whnf
  have hget := hF.get
  have hmk := hF.up
  have HR : Hid (∀ lv w', w0.Since w0.heap.size w' → R (.returned (.pointer (some ⟨lv, 0, none⟩))) w') := hR
  clear hR
  refine wp_seq_hid (fun K HK => ?_)
  go_wp2
  refine HK.out _ _ ?_
  clear HK K
  refine wp_seq_hid (fun K HK => ?_)
  go_wp2
  refine HK.out _ _ ?_
  clear HK
  obtain ⟨cs, hcs⟩ : ∃ cs : Array Value, cs = #[.pointer (some ⟨fb, 0, none⟩), .int .i64 (-1), .int .i64 0, .slice none 0 0, .slice none 0 0, .slice none 0 0, .slice none 0 0, .pointer none, .int .i64 0, .slice none 0 0, .slice none 0 0, .slice none 0 0, .slice none 0 0, .slice none 0 0, .slice none 0 0, .slice none 0 0, .slice none 0 0, .slice none 0 0, .slice none 0 0, .slice none 0 0, .int .i64 0, .slice none 0 0, .slice none 0 0, .slice none 0 0, .int .i64 64, .int .i64 0, .slice none 0 0, .slice none 0 0, .slice none 0 0, .slice none 0 0] := ⟨_, rfl⟩
  rw [← hcs]
  have s1 := (St.start w0 (fun _ => 0) (fun _ => any1 0)).new cs 122 0 1 (.inr ⟨rfl, rfl⟩) (vals 122 30 (fun i => cs.getD i undef)) rfl (by rw [hcs]; rfl) (fun i v hv => by show v = cs.getD i undef; rw [Array.getD_eq_getD_getElem?, hv]; rfl)
  have s2 := s1.new #[.pointer (some ⟨w0.heap.size, 0, none⟩)] 74 1 2 (.inr ⟨rfl, rfl⟩) (bx 74 (.pointer (some ⟨w0.heap.size, 0, none⟩))) rfl rfl (fun i v hv => by
    match i, hv with
    | 0, hv => simp at hv; exact hv.symm)
  have hz1 : (w0.alloc (.cells cs 122)).heap.size = w0.heap.size + 1 := World.size_alloc _ _
  rw [hz1] at s2
  obtain ⟨a0, ha0⟩ : ∃ a, a = w0.heap.size := ⟨_, rfl⟩
  obtain ⟨a1, ha1⟩ : ∃ a, a = w0.heap.size + 1 := ⟨_, rfl⟩
  rw [← ha1, ← ha0] at s2
  rw [← ha1, ← ha0]
  clear s1 hz1 hcs ha0 ha1
  generalize (w0.alloc (.cells cs 122)).alloc (.cells #[.pointer (some ⟨a0, 0, none⟩)] 74) = w1 at s2 ⊢
  obtain ⟨bb, bo, bc, kB0, hblk⟩ := hC.blocks
  have kB := old_cell s2.since kB0
  have kb0 := old_cell s2.since (hblk 0 hn1)
  rw [Nat.add_zero] at kb0
  have kr := old_cell s2.since hres
  have HS2 : Hid (St w0 w1 2 (upd (upd (fun _ => 0) 0 a0) 1 a1) (upd (upd (fun _ => any1 0) 0 (vals 122 30 (fun i => cs.getD i undef))) 1 (bx 74 (.pointer (some ⟨a0, 0, none⟩))))) := s2
  have hnz : (0 : Int) < (n : Int) := by omega
  have hd : decide (0 < n) = true := by simp; omega
  clear s2
  refine wp_seq_hid (fun K HK => ?_)
  refine wp_seq_hid (fun K2 HK2 => ?_)
  go_wp2
  refine HK2.out _ _ ?_
  clear HK2 K2
  refine wp_block ?_
  refine wp_loop_once ?_
  refine wp_seq_hid (fun K2 HK2 => ?_)
  go_wp2
  refine HK2.out _ _ ?_
  clear HK2 K2
  refine wp_seq_hid (fun K2 HK2 => ?_)
  refine hF.cond (by omega) rfl (fun h => ?_) (fun h => by cases h)
  clear h
  go_wp2
  refine HK2.out _ _ ?_
  clear HK2
  refine wp_seq_hid (fun K2 HK2 => ?_)
  clear HK2
  refine wp_block ?_
  refine wp_seq_hid (fun K3 HK3 => ?_)
  go_wp2
  refine HK3.out _ _ ?_
  clear HK3
  refine wp_seq_hid (fun K3 HK3 => ?_)
  clear HK3
  refine wp_seq_hid (fun K4 HK4 => ?_)
  go_wp2
  refine HK4.out _ _ ?_
  clear HK4
  refine hF.cond (by omega) rfl (fun h => ?_) (fun h => by cases h)
  clear h
  go_wp2
  refine HK.out _ _ ?_
  clear HK
  refine wp_seq_hid (fun K HK => ?_)
  refine wp_seq_hid (fun K2 HK2 => ?_)
  go_wp2
  refine HK2.out _ _ ?_
  clear HK2
  refine hF.cond (by omega) rfl (fun h => by cases h) (fun h => ?_)
  clear h
  go_wp2
  refine HK.out _ _ ?_
  clear HK
  refine wp_seq_hid (fun K HK => ?_)
  go_wp2
  refine HK.out _ _ ?_
  clear HK
  refine wp_seq_hid (fun K HK => ?_)
  refine l13 hF (n := n) (D := fun i => cs.getD i undef) hn (by simp [fup_at]) rfl HS2.out rfl (by simp [fup_at]; rfl) ?_
  intro x w2 g3 D1 hx hS3 d3 hkp
  have x0 : x 0 = .pointer (some ⟨fb, 0, none⟩) := (hx 0 (by omega) (by kernel_rfl)).trans (by simp [fup_at, h0])
  have x1 : x 1 = .int .i64 0 := (hx 1 (by omega) (by kernel_rfl)).trans (by simp [fup_at, h1])
  have x2 : x 2 = .slice aa 0 ac := (hx 2 (by omega) (by kernel_rfl)).trans (by simp [fup_at, h2])
  have x7 : x 7 = .pointer (some ⟨a1, 0, none⟩) := (hx 7 (by omega) (by kernel_rfl)).trans (by simp [fup_at])
  have x11 : x 11 = .int .i64 (n : Nat) := (hx 11 (by omega) (by kernel_rfl)).trans (by simp [fup_at])
  refine HK.out _ _ ?_
  clear HK hx
  have hQ : Lq w0 w2 (upd (upd (upd (fun _ => 0) 0 a0) 1 a1) 2 g3) (upd (upd (upd (upd (fun _ => any1 0) 0 (vals 122 30 (fun i => cs.getD i undef))) 1 (bx 74 (.pointer (some ⟨a0, 0, none⟩)))) 0 (vals 122 30 D1)) 2 (arr (n + 1) (fun b => ((sk sc 0 b : Nat) : Int)))) n D1 (sk sc 0) := by
    refine ⟨hS3.recast _ (fun k hk => ?_), rfl, rfl, rfl, d3⟩
    by_cases e : k = 2
    · subst e
      rw [upd_same, upd_same]
      refine ⟨rfl, rfl, fun i v _ hv => ?_⟩
      have hz : sk sc 0 i = 0 := by unfold sk; split <;> rfl
      show v = .int .i64 ((sk sc 0 i : Nat) : Int)
      rw [hz]; exact hv
    · rw [upd_other _ _ e, upd_other _ _ e]; exact same_lb rfl
  exact l14t hF (aa := aa) (ac := ac) hC hQ hn hn1 ⟨x0, x1, x2, x7, x11⟩ (fun w' h => HR.out _ w' h)

set_option maxRecDepth 100000 in
/-- THE LAW of Liveness, where nothing is accessed and the function resumes nowhere. -/
theorem live_any {w0 : World} {n fb ac : Nat} {aa : Option Addr} {bk : Nat → Nat} {sc : Nat → Option Nat} (hC : Cfg w0 fb n bk sc) (hn : n ≤ 100000) (hn1 : 1 ≤ n) (hres : w0.cell? ⟨fb, 5, none⟩ = some (.pointer none)) :
    Calls Ybaz.prog 19 #[.pointer (some ⟨fb, 0, none⟩), .int .i64 0, .slice aa 0 ac] w0 fun e w' => ∃ lv, e = .returned (.pointer (some ⟨lv, 0, none⟩)) ∧ w0.Since w0.heap.size w' := by
  refine calls_of_wp Ybaz.func19 rfl ?_
  rw [(frm_fr 371).of (Act.mk _ _) (by simp [Ybaz.ntmps19]) rfl]
  exact l0t (frm_fr 371) (aa := aa) (ac := ac) hC hn hn1 hres (by simp) (by simp) (by simp) (fun lv w' h => ⟨lv, rfl, h⟩)
end Go.Proofs.YbulkexmzaGreat
