/-
  THE WALK over chunked.Slice's Extend (15), by one more.
-/
import Derived.Test.YbulkexmymGraph
import Derived.Deep.RegionHeld3
import Derived.Deep.RegionLaw
import Derived.Deep.DrawnRows
namespace Go.Proofs.Ybulkexmym
open Go.RowKit

theorem Yba.info56 : (Yba.prog.info? 56).map (fun i => (i.zero, i.size, i.bytes)) = some (some (.slice none 0 0), 1, 24) := by kernel_rfl
theorem Yba.info42 : (Yba.prog.info? 42).map (fun i => (i.zero, i.size, i.bytes)) = some (some (.agg #[.string ⟨#[]⟩, .int .i32 0, .int .i32 0, .slice none 0 0, .bool false, .bool false, .slice none 0 0, .slice none 0 0, .int .i32 0]), 9, 112) := by kernel_rfl
def zchunk : Array Value := madeCells #[.string ⟨#[]⟩, .int .i32 0, .int .i32 0, .slice none 0 0, .bool false, .bool false, .slice none 0 0, .slice none 0 0, .int .i32 0] 9216
theorem zchunk_size : zchunk.size = 9216 := size_madeCells _ _
theorem make56 (w : World) : (Instr.makeSlice 56 (.int .i64 1024) (.int .i64 1024)).run Yba.prog w = .ok (.slice (some ⟨w.heap.size, 0, none⟩) 1024 1024) (w.alloc (.cells zchunk 42)) := by
  obtain ⟨i, hi, hz0, hz1, hz2⟩ := info_parts Yba.info42
  have := run_make (P := Yba.prog) w 56 42 i _ Yba.underlying56 hi hz0 .i64 .i64 1024 1024 (by omega) (by omega) (by rw [hz2]; decide) (by omega)
  rw [this, hz1]
  rfl

theorem alloc_lt {w : World} {o : Obj} {b : Nat} (h : b < w.heap.size) : b < (w.alloc o).heap.size := by simp; omega
theorem alloc_cell {w : World} {o : Obj} {b i : Nat} {v : Value} (h : b < w.heap.size) (hc : w.cell? ⟨b, i, none⟩ = some v) : (w.alloc o).cell? ⟨b, i, none⟩ = some v := (World.cell?_alloc_lt _ _ _ h).trans hc
theorem alloc_free {w : World} {o : Obj} {b i : Nat} (h : b < w.heap.size) (hc : w.frozen? ⟨b, i, none⟩ = false) : (w.alloc o).frozen? ⟨b, i, none⟩ = false := (World.frozen?_alloc_past _ _ _ h).trans hc
theorem far_lt {w w' : World} {r : Option Nat} {b : Nat} (hg : w.grownBy w' r) (h : b < w.heap.size) : b < w'.heap.size := Nat.lt_of_lt_of_le h hg.size

theorem alloc2_cell {w : World} {o o2 : Obj} {b i : Nat} {v : Value} (h : b < w.heap.size) (hc : w.cell? ⟨b, i, none⟩ = some v) : (((w.alloc o).alloc o2).drew).cell? ⟨b, i, none⟩ = some v := alloc_cell (alloc_lt h) (alloc_cell h hc)
theorem alloc2_free {w : World} {o o2 : Obj} {b i : Nat} (h : b < w.heap.size) (hc : w.frozen? ⟨b, i, none⟩ = false) : (((w.alloc o).alloc o2).drew).frozen? ⟨b, i, none⟩ = false := alloc_free (alloc_lt h) (alloc_free h hc)
theorem far_cell {w w' : World} {r : Option Nat} {b i : Nat} {v : Value} (hg : w.grownBy w' r) (hn : r ≠ some b) (h : b < w.heap.size) (hc : w.cell? ⟨b, i, none⟩ = some v) : w'.cell? ⟨b, i, none⟩ = some v := (hg.cell_far ⟨b, i, none⟩ h (Ne.symm hn)).trans hc
theorem far_free {w w' : World} {r : Option Nat} {b i : Nat} (hg : w.grownBy w' r) (hn : r ≠ some b) (h : b < w.heap.size) (hc : w.frozen? ⟨b, i, none⟩ = false) : w'.frozen? ⟨b, i, none⟩ = false := (hg.frozen_far ⟨b, i, none⟩ h (Ne.symm hn)).trans hc

variable {w w1 : World} {L L1 : Nat → Nat × Nat} {B gb : Nat} {un : Value} {ln n : Nat} {ob : Nat → Ob} {pv : Nat → Value} {C : Nat → Nat} {nc : Nat} {cv : Value}

set_option maxHeartbeats 400000 in
theorem ext_room (h : GInv w L B gb un n n ob pv C nc cv) (hr : n + 1 ≤ nc * 1024) :
    Calls Yba.prog 15 #[.pointer (some ⟨gb, 0, none⟩), .int .i64 ((n : Int) + 1)] w fun e w' => e = .returned (.tuple #[]) ∧ w' = w.setCell ⟨gb, 1, none⟩ (.int .i64 ((n : Int) + 1)) := by
  obtain ⟨g, cap, rfl, _⟩ := h.chunks (by omega)
  have h0 := h.g0
  have h1 := h.g1
  have f1 := h.gf 1 (by omega)
  have hm := h.max
  have hk := h.ncle
  clear h
  go_enter Yba.func15, Yba.ntmps15
  go_wp2_with fail
  refine wp_loop_rounds 1 ?_
  rw [rounds_succ]
  go_wp2
  go_end0
  exact ⟨rfl, rfl⟩

set_option maxRecDepth 100000 in
set_option maxHeartbeats 1000000 in
theorem ext_new (h : GInv w L B gb un n n ob pv C nc cv) (hr : nc * 1024 = n) (hmax : n < 65540) :
    Calls Yba.prog 15 #[.pointer (some ⟨gb, 0, none⟩), .int .i64 ((n : Int) + 1)] w fun e w' => ∃ g cap w2, e = .returned (.tuple #[]) ∧
      w2.ownsRow B 56 1 (.slice (some ⟨g, 0, none⟩) (nc + 1) cap) (nc + 1) (chunkVals C nc ++ [.slice (some ⟨w.heap.size, 0, none⟩) 1024 1024]) ∧ (cv.ownBlock = some g ∨ g = w.heap.size + 2) ∧
      ((w.alloc (.cells zchunk 42)).alloc (.cells #[.slice (some ⟨w.heap.size, 0, none⟩) 1024 1024] 56)).drew.grownBy w2 cv.ownBlock ∧
      w' = (w2.setCell ⟨gb, 0, none⟩ (.slice (some ⟨g, 0, none⟩) (nc + 1) cap)).setCell ⟨gb, 1, none⟩ (.int .i64 ((n : Int) + 1)) := by
  obtain ⟨i0, hi0, hz0, hz1, hz2⟩ := info_parts Yba.info56
  have hown : w.ownsRow B 56 1 cv nc (chunkVals C nc) := by have := h.cr.own; rwa [chunkVals_length] at this
  have h0 := h.g0
  have h1 := h.g1
  have f0 := h.gf 0 (by omega)
  have f1 := h.gf 1 (by omega)
  have hgs := h.gs
  have hne : cv.ownBlock ≠ some gb := fun e => by have := h.cr.lab gb e; rw [h.gl] at this; simp at this
  have hBw : B ≤ w.heap.size := by have := h.gB; omega
  have hlen : ∃ a c, cv = .slice a nc c := by
    rcases h.cr.form with ⟨h1, h2⟩ | ⟨g, cap, h1, _⟩
    · have := congrArg List.length h2; rw [chunkVals_length] at this; simp at this; subst this; exact ⟨_, _, h1⟩
    · rw [chunkVals_length] at h1; exact ⟨_, _, h1⟩
  obtain ⟨ca, cc, rfl⟩ := hlen
  have hmk := make56
  have HOWN : Hid (w.ownsRow B 56 1 (.slice ca nc cc) nc (chunkVals C nc)) := hown
  have HNE : Hid ((Value.slice ca nc cc).ownBlock ≠ some gb) := hne
  have HNB : Hid ((((w.alloc (.cells zchunk 42)).alloc (.cells #[.slice (some ⟨w.heap.size, 0, none⟩) 1024 1024] 56)).drew).heap[w.heap.size + 1]? = some (.cells #[.slice (some ⟨w.heap.size, 0, none⟩) 1024 1024] 56 (0, 0))) := by
    have := heap_alloc_new (w.alloc (.cells zchunk 42)) (.cells #[.slice (some ⟨w.heap.size, 0, none⟩) 1024 1024] 56)
    show (((w.alloc (.cells zchunk 42)).alloc (.cells #[.slice (some ⟨w.heap.size, 0, none⟩) 1024 1024] 56)).heap)[w.heap.size + 1]? = _
    rw [← this]; simp
  have hnc : nc ≤ 65 := by omega
  have hlt : (nc : Int) * 1024 < (n : Int) + 1 := by omega
  have hge : ¬ ((nc : Int) + 1) * 1024 < (n : Int) + 1 := by omega
  clear h hown hne hr
  go_enter Yba.func15, Yba.ntmps15
  go_wp2_with fail
  refine wp_loop_rounds 2 ?_
  rw [rounds_succ]
  go_wp2_with fail
  go_region_law
    ((refine step_append_lies _ (by rfl) _ _ _ (by rfl) B 56 i0 _ 1 24 Yba.underlying24 hi0 hz0 hz1 hz2 rfl (by omega) (.slice ca nc cc) nc (chunkVals C nc) (by rfl) ((HOWN.out.alloc _).alloc _).drew
        ⟨w.heap.size + 1, 0, none⟩ 1 1 [.slice (some ⟨w.heap.size, 0, none⟩) 1024 1024] (by rfl) (by rfl) (World.news_of_block (cs := #[.slice (some ⟨w.heap.size, 0, none⟩) 1024 1024]) (t := 56) (fr := (0, 0)) HNB.out) (by simp [Value.oneCell'])
        (by omega) (by unfold maxLen; omega) (by omega) (by simp; omega) (w.heap.size + 2) (by simp) ?_; intro gg cap w2 hown2 hgrow hat hlt2; have k0 := far_cell hgrow (HNE.out) (by simp; omega) (alloc2_cell hgs h0); have k1 := far_cell hgrow (HNE.out) (by simp; omega) (alloc2_cell hgs h1); have k2 := far_free hgrow (HNE.out) (by simp; omega) (alloc2_free hgs f0); have k3 := far_free hgrow (HNE.out) (by simp; omega) (alloc2_free hgs f1)))
  all_goals
    simp only [Exit.inBlock, Exit.then]
    rw [rounds_succ]
    go_wp2_with fail
    go_end0
    exact ⟨gg, cap, w2, rfl, hown2, hat, hgrow, rfl⟩
end Go.Proofs.Ybulkexmym
