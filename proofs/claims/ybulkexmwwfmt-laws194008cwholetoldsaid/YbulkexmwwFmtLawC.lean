/-
  THE LAW's WALK (3), third part: an i32 out of the nil slice.
-/
import Derived.Test.YbulkexmwwFmtLawB
namespace Go.Proofs.YbulkexmwwFmt
open Go.RowKit Go.Extern.Stop Go.Stop Go.Extern

set_option maxRecDepth 100000 in
set_option maxHeartbeats 1000000 in
theorem law_empty (F : Interp) (ao : Option Addr) (c : Nat) (hao : ao = none → c = 0) (at_ depth t : Int) (b : Bool) (a0 a1 : Addr) (w : World)
    (hbt : b = true ∨ (b = false ∧ t = 5)) (hF : F.answers w.tape) (h2 : 1 < w.heap.size)
    (hg0 : w.cell? ⟨0, 0, none⟩ = some (.iface 58 (.pointer (some a0)))) (hg1 : w.cell? ⟨1, 0, none⟩ = some (.iface 58 (.pointer (some a1)))) :
    Calls Ybaf.prog 3 #[.slice ao 0 c, .int .u64 at_, .int .i64 depth, .int .u8 t, .bool b] w fun e w' => e = .returned (.bool true) ∧ Below w.heap.size w w' := by
  have HB : Hid (Bytes w ao 0 c []) := ⟨fun h => ⟨rfl, hao h⟩, (fun _ _ j hj => absurd hj (by omega)), rfl, Nat.zero_le _, by omega, (fun j => by simp)⟩
  have HF : Hid (F.answers w.tape) := hF
  have HG0 : Hid (w.cell? ⟨0, 0, none⟩ = some (.iface 58 (.pointer (some a0)))) := hg0
  have HG1 : Hid (w.cell? ⟨1, 0, none⟩ = some (.iface 58 (.pointer (some a1)))) := hg1
  clear hF hg0 hg1 hao
  rcases hbt with rfl | ⟨rfl, rfl⟩
  all_goals
    go_enter Ybaf.func3, Ybaf.ntmps3
    go_wp2_with fail
    refine (clone_uni w _ 0 c [] HB.out).mono ?_
    rintro e w1 ⟨v, rfl, hB1, hv⟩
    have HV : Hid _ := hv
    clear hv
    go_wp2_with fail
    refine (int32_any F _ 0 c 0 [] depth a0 a1 w1 (HB.out.below hB1) (by have := HF.out; unfold Interp.answers at *; rw [hB1.tape]; exact this) (Nat.le_refl _) (by have := hB1.size; omega) ((hB1.cell (p := ⟨0, 0, none⟩) (show 0 < w.heap.size by omega)).trans HG0.out) ((hB1.cell (p := ⟨1, 0, none⟩) h2).trans HG1.out)).mono ?_
    rintro e w3 (⟨hst, g, hg, rfl, hy0, hy1, hB3⟩ | ⟨hst, _⟩ | ⟨hst, _⟩ | ⟨hst, _⟩)
    · obtain ⟨hA, hc0, hc1, hc2⟩ := after_same hB3
      have hBB : Below w.heap.size w w3 := hB1.trans (hA.mono hB1.size)
      have hG0 := (hBB.cell (p := ⟨0, 0, none⟩) (show 0 < w.heap.size by omega)).trans HG0.out
      clear hB3 hst
      go_wp2_with (go_at_call 6; refine (equal_any _ _ [] _ ((HB.out.below hBB).convert) (HV.out _ hA)).mono ?_; rintro e w' ⟨rfl, hw⟩; cases hw)
      refine wp_loop_rounds 1 ?_
      rw [rounds_succ]
      go_wp2_with (go_at_call 7; refine (cerr_same g 0 a0 _ hy0 hy1).mono ?_; rintro e w' ⟨rfl, hw⟩; cases hw)
      go_ret
      exact ⟨rfl, hBB⟩
    · cases hst
    · cases hst
    · cases hst
end Go.Proofs.YbulkexmwwFmt
