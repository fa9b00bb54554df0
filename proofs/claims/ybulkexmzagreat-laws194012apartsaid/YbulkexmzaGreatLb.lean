/-
  slices.SortFunc (39) with Liveness's closure (40): a range of a row of block numbers is permuted.
-/
import Derived.Test.YbulkexmzaGreatLa
import Derived.Shelf.SlSortCmp.Whole1
import Derived.Shelf.SlSortCmp.NoneTotal
import Derived.Shelf.Lay
import Derived.Ground.SlsfProg
namespace Go.Proofs.YbulkexmzaGreat
open Go.RowKit Go.Shelf Go.Lib Go.Sort

shelf_lay_g SlLaysF.n6 Slsf 6 at Ybaz 39 as Ybaz.sort39

theorem sw_block {α : Type} [Inhabited α] (enc : α → Value) (w : World) (blk off m : Nat) (d : Array α) (os : Array Obj) {b : Nat} (hb : b < w.heap.size) (hne : b ≠ blk) : (sortWorld enc w blk off m d os).heap[b]? = w.heap[b]? := by
  unfold sortWorld grow putRow mapBlock Sort.ahead
  simp only
  rw [Array.getElem?_append_left (by simpa using hb), Array.getElem?_modify, if_neg (Ne.symm hne)]
theorem sw_since {α : Type} [Inhabited α] (enc : α → Value) {w0 w : World} (blk off m : Nat) (d : Array α) (os : Array Obj) (h : w0.Since w0.heap.size w) (hb : w0.heap.size ≤ blk) : w0.Since w0.heap.size (sortWorld enc w blk off m d os) := by
  refine ⟨h.os, h.tape, h.output, ?_, fun i hi => ?_⟩
  · unfold sortWorld grow putRow mapBlock Sort.ahead
    simp only [Array.size_append, Array.size_modify]
    exact Nat.le_trans h.size (Nat.le_add_right _ _)
  · rw [sw_block enc w blk off m d os (Nat.lt_of_lt_of_le hi h.size) (by omega)]
    exact h.block i hi
theorem sw_row {α : Type} [Inhabited α] (enc : α → Value) {w : World} (blk off m : Nat) (d : Array α) (os : Array Obj) {lb : Lb} (h : RowOk w blk lb) (hp : ∀ j, j < d.size → lb.p (off + j) (enc d[j]!)) : RowOk (sortWorld enc w blk off m d os) blk lb := by
  have hlt := h.lt
  obtain ⟨c, hc, hn, hq⟩ := h
  refine ⟨putCells enc off d c, ?_, by simp [putCells, hn], fun i v hv => ?_⟩
  · unfold sortWorld grow putRow mapBlock Sort.ahead
    simp only
    rw [Array.getElem?_append_left (by simpa using hlt), Array.getElem?_modify, if_pos rfl, hc]
    rfl
  · unfold putCells at hv
    rw [Array.getElem?_mapIdx] at hv
    obtain ⟨x, hx, hv⟩ := Option.map_eq_some_iff.1 hv
    split at hv
    · rename_i hr
      have := hp (i - off) (by omega)
      rw [show off + (i - off) = i by omega] at this
      rw [← hv]; exact this
    · rw [← hv]; exact hq i x hx

set_option maxHeartbeats 2000000 in
set_option maxRecDepth 100000 in
/-- The closure. -/
theorem cmp40 {W : World} {lb_ lv dp gp n : Nat} {x y : Nat} {p q : Int} (kl : W.cell? ⟨lb_, 0, none⟩ = some (.pointer (some ⟨lv, 0, none⟩))) (kd : W.cell? ⟨lv, 7, none⟩ = some (.pointer (some ⟨dp, 0, none⟩))) (kp : W.cell? ⟨dp, 3, none⟩ = some (.slice (some ⟨gp, 0, none⟩) (n + 1) (n + 1)))
    (kx : W.cell? ⟨gp, x, none⟩ = some (.int .i64 p)) (ky : W.cell? ⟨gp, y, none⟩ = some (.int .i64 q)) (hx : x < n) (hy : y < n) (hp : 0 ≤ p ∧ p < 1000000000000) (hq : 0 ≤ q ∧ q < 1000000000000) :
    Calls Ybaz.prog 40 #[.int .i64 (x : Nat), .int .i64 (y : Nat), .pointer (some ⟨lb_, 0, none⟩)] W fun e w' => e = .returned (.int .i64 (p - q)) ∧ ∃ k, w' = W.drewN k := by
  have hxz : (x : Int) < (n : Int) + 1 := by omega
  have hyz : (y : Int) < (n : Int) + 1 := by omega
  have hw : IntKind.i64.wrap (p - q) = p - q := by rw [IntKind.wrap_i64]; omega
  go_enter Ybaz.func40, Ybaz.ntmps40
  go_wp2
  go_still (by kernel_rfl)
  go_wp2
  go_ret
  exact ⟨rfl, 1, rfl⟩
end Go.Proofs.YbulkexmzaGreat
