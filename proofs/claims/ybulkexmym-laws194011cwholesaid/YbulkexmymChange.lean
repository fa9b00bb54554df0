/-
  THE WALKS over Graph.change (11) inside a block, slices.Equal (9).
-/
import Derived.Test.YbulkexmymUndo
namespace Go.Proofs.Ybulkexmym
open Go.RowKit

variable {w w1 : World} {L L1 : Nat → Nat × Nat} {B gb : Nat} {un : Value} {ln n : Nat} {ob : Nat → Ob} {pv : Nat → Value} {C : Nat → Nat} {nc : Nat} {cv : Value}

set_option maxRecDepth 100000 in
set_option maxHeartbeats 1000000 in
theorem change_undo (ub mb : Nat) (h : GInv w L B gb (.pointer (some ⟨ub, 0, none⟩)) n n ob pv C nc cv) (hu : UInv w L B ub mb n) (hm : w.heap[mb]? = some (.map #[] 0)) (i : Nat) (hi : i < n) :
    Calls Yba.prog 11 #[.pointer (some ⟨gb, 0, none⟩), .int .i32 i] w fun e w' => e = .returned (.pointer (some ⟨C (i / 1024), i % 1024 * 9, none⟩)) ∧
      w' = putMap (w.alloc (.cells #[.string ⟨#[]⟩, .int .i32 0, .int .i32 0, .slice none 0 0, .bool false, .bool false, .slice none 0 0, .slice none 0 0, .int .i32 0] 42)).drew mb
        (.map #[{ key := .int .i32 i, val := .agg #[.string (ob i).desc, .int .i32 (ob i).whole, .int .i32 (ob i).part, pv i, .bool false, .bool false, .slice none 0 0, .slice none 0 0, .int .i32 0], born := 0 }] 1) := by
  have H : Hid _ := h
  have h3 := h.g3
  have e1 := ptr_eq28
  have u0 := hu.u0
  have u1 := hu.u1
  have hmax := h.max
  have hi' : (i : Int) < n := by omega
  have hlk := lookup_empty w mb i hm
  have hoc := h.oc i hi
  have hub : ub < w.heap.size := World.block_lt_of_cell? _ _ hu.u0
  have hcb : C (i / 1024) < w.heap.size := World.block_lt_of_cell? _ _ (hoc 0 _ rfl)
  have o0 : w.cell? ⟨C (i / 1024), i % 1024 * 9, none⟩ = some (.string (ob i).desc) := hoc 0 _ rfl
  have o1 : w.cell? ⟨C (i / 1024), i % 1024 * 9 + 1, none⟩ = some (.int .i32 (ob i).whole) := hoc 1 _ rfl
  have o2 : w.cell? ⟨C (i / 1024), i % 1024 * 9 + 2, none⟩ = some (.int .i32 (ob i).part) := hoc 2 _ rfl
  have o3 : w.cell? ⟨C (i / 1024), i % 1024 * 9 + 3, none⟩ = some (pv i) := hoc 3 _ rfl
  have o4 : w.cell? ⟨C (i / 1024), i % 1024 * 9 + 4, none⟩ = some (.bool false) := hoc 4 _ rfl
  have o5 : w.cell? ⟨C (i / 1024), i % 1024 * 9 + 5, none⟩ = some (.bool false) := hoc 5 _ rfl
  have o6 : w.cell? ⟨C (i / 1024), i % 1024 * 9 + 6, none⟩ = some (.slice none 0 0) := hoc 6 _ rfl
  have o7 : w.cell? ⟨C (i / 1024), i % 1024 * 9 + 7, none⟩ = some (.slice none 0 0) := hoc 7 _ rfl
  have o8 : w.cell? ⟨C (i / 1024), i % 1024 * 9 + 8, none⟩ = some (.int .i32 0) := hoc 8 _ rfl
  have hlab : ∃ a l c, pv i = .slice a l c := by
    rcases (h.pr i hi).form with ⟨h1, _⟩ | ⟨g, cap, h1, _⟩ <;> exact ⟨_, _, _, h1⟩
  obtain ⟨pa, pl, pc, hpv⟩ := hlab
  have hub' : ub < w.heap.size + 1 := by omega
  have hcb' : C (i / 1024) < w.heap.size + 1 := by omega
  rw [hpv] at o3 ⊢
  have hup := fun v => update_empty (w.alloc (.cells #[.string ⟨#[]⟩, .int .i32 0, .int .i32 0, .slice none 0 0, .bool false, .bool false, .slice none 0 0, .slice none 0 0, .int .i32 0] 42)).drew mb i v (by
    show (w.alloc _).heap[mb]? = _
    rw [Below.heap_alloc _ _ _ hu.ms]; exact hm)
  simp only [zob] at hlk
  clear h hu hoc hm
  go_enter Yba.func11, Yba.ntmps11
  go_wp2_with (go_at_call 14; refine (live_any H.out i hi).mono ?_; rintro e w' ⟨rfl, hw⟩; cases hw)
  refine region_tail 8 (by kernel_rfl) (by kernel_rfl) ?_
  simp only [List.take_succ_cons, List.take_zero, List.drop_succ_cons, List.drop_zero]
  iterate 8 still_step
  refine wpStill_nil ?_
  go_wp2_with fail
  go_ret
  exact ⟨rfl, rfl⟩

/-- A slice's cells: of N ids, f j the j-th. -/
def IdsAt (w : World) (a : Option Addr) (N : Nat) (f : Nat → Int) : Prop := ∀ j, j < N → ∃ b, a = some ⟨b, 0, none⟩ ∧ w.cell? ⟨b, j, none⟩ = some (.int .i32 (f j))

set_option maxRecDepth 100000 in
set_option maxHeartbeats 1000000 in
theorem equal_same (a1 a2 : Option Addr) (c1 c2 N : Nat) (f : Nat → Int) (w : World) (hl : N ≤ 100000) (h1 : IdsAt w a1 N f) (h2 : IdsAt w a2 N f) :
    Calls Yba.prog 9 #[.slice a1 N c1, .slice a2 N c2] w fun e w' => e = .returned (.bool true) ∧ ∃ m, w' = w.drewN m := by
  by_cases h0 : N = 0
  · subst h0
    clear h1 h2
    go_enter Yba.func9, Yba.ntmps9
    go_wp2_with fail
    refine wp_loop_rounds 1 ?_
    rw [rounds_succ]
    go_wp2_with fail
    go_ret
    exact ⟨rfl, 0, rfl⟩
  · obtain ⟨b1, rfl, _⟩ := h1 0 (by omega)
    obtain ⟨b2, rfl, _⟩ := h2 0 (by omega)
    have k1 : ∀ j, j < N → w.cell? ⟨b1, j, none⟩ = some (.int .i32 (f j)) := fun j hj => by
      obtain ⟨b, hb, hc⟩ := h1 j hj
      simp at hb; subst hb; exact hc
    have k2 : ∀ j, j < N → w.cell? ⟨b2, j, none⟩ = some (.int .i32 (f j)) := fun j hj => by
      obtain ⟨b, hb, hc⟩ := h2 j hj
      simp at hb; subst hb; exact hc
    clear h1 h2
    go_enter Yba.func9, Yba.ntmps9
    go_wp2_with fail
    go_loopw [13] (fun i wr => ∃ k m : Nat, k ≤ N ∧ i = .int .i64 k ∧ wr = w.drewN m) (fun i _ => N - (intOf i).toNat)
    case atStart => exact ⟨0, 0, Nat.zero_le _, rfl, rfl⟩
    case round =>
      obtain ⟨k, m, hk, rfl, rfl⟩ := hrel
      by_cases hlt : k < N
      · have q1 := k1 k hlt
        have q2 := k2 k hlt
        have hlt' : (k : Int) < N := by omega
        generalize f k = x at q1 q2
        clear k1 k2
        go_wp2_with fail
        go_quiet (fail)
        go_wp2_with fail
        go_roundw
        case rel => exact ⟨k + 1, m + nq, by omega, by go_num, by simp⟩
        case measure => simp [intOf]; omega
      · have hlt' : ¬ (k : Int) < N := by omega
        clear k1 k2
        go_wp2_with fail
        go_ret
        exact ⟨rfl, m, rfl⟩
end Go.Proofs.Ybulkexmym
