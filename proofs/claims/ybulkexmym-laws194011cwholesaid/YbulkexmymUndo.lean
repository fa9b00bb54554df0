/-
  THE WALKS over Graph.Begin (6), Graph.change (11), slices.Equal (9).
-/
import Derived.Test.YbulkexmymAdd
namespace Go.Proofs.Ybulkexmym
open Go.RowKit

variable {w w1 : World} {L L1 : Nat → Nat × Nat} {B gb : Nat} {un : Value} {ln n : Nat} {ob : Nat → Ob} {pv : Nat → Value} {C : Nat → Nat} {nc : Nat} {cv : Value}

def zob : Value := .agg #[.string ⟨#[]⟩, .int .i32 0, .int .i32 0, .slice none 0 0, .bool false, .bool false, .slice none 0 0, .slice none 0 0, .int .i32 0]
def putMap (w : World) (r : Nat) (o : Obj) : World := { w with heap := w.heap.setIfInBounds r o }

theorem key37 (b : Bool) (k : Int) (w : World) : (Instr.checkKey b 10000 37 (.int .i32 k)).run Yba.prog w = .ok () w := by kernel_rfl

theorem lookup_empty (w : World) (r : Nat) (k : Int) (h : w.heap[r]? = some (.map #[] 0)) :
    (Instr.lookup 46 (.map (some r)) (.int .i32 k) true).run Yba.prog w = .ok (.tuple #[zob, .bool false]) w := by
  simp [Instr.lookup, run_underlying Yba.underlying46, run_getObj_map w r _ _ h, key37, Instr.findKey, Instr.findNow, run_underlying Yba.underlying37, zob]

theorem lookup_one (w : World) (r : Nat) (k : Int) (v : Value) (h : w.heap[r]? = some (.map #[{ key := .int .i32 k, val := v, born := 0 }] 1)) :
    (Instr.lookup 46 (.map (some r)) (.int .i32 k) true).run Yba.prog w = .ok (.tuple #[v, .bool true]) w := by
  simp [Instr.lookup, run_underlying Yba.underlying46, run_getObj_map w r _ _ h, key37, Instr.findKey, Instr.findNow, Instr.sameNow, run_underlying Yba.underlying37]

theorem update_empty (w : World) (r : Nat) (k : Int) (v : Value) (h : w.heap[r]? = some (.map #[] 0)) :
    (Instr.mapUpdate 46 (.map (some r)) (.int .i32 k) v).run Yba.prog w = .ok () (putMap w r (.map #[{ key := .int .i32 k, val := v, born := 0 }] 1)) := by
  simp [Instr.mapUpdate, run_underlying Yba.underlying46, run_getObj_map w r _ _ h, key37, Instr.findKey, Instr.findNow, run_underlying Yba.underlying37, setObj, Sem.run, h, putMap]

theorem len_cell (h1 : w.cell? ⟨gb, 1, none⟩ = some (.int .i64 ln)) :
    Calls Yba.prog 7 #[.pointer (some ⟨gb, 0, none⟩)] w fun e w' => e = .returned (.int .i64 ln) ∧ w' = w := by
  go_enter Yba.func7, Yba.ntmps7
  go_wp2
  go_ret
  exact ⟨rfl, rfl⟩

theorem ptr_eq28 (a : Addr) (w : World) : (binOp .neq 28 (.pointer (some a)) (.pointer none)).run Yba.prog w = .ok (.bool true) w := by kernel_rfl
theorem nil_eq28 (w : World) : (binOp .neq 28 (.pointer none) (.pointer none)).run Yba.prog w = .ok (.bool false) w := by kernel_rfl

set_option maxRecDepth 100000 in
set_option maxHeartbeats 400000 in
theorem change_nil (h : GInv w L B gb (.pointer none) ln n ob pv C nc cv) (i : Nat) (hi : i < n) :
    Calls Yba.prog 11 #[.pointer (some ⟨gb, 0, none⟩), .int .i32 i] w fun e w' => e = .returned (.pointer (some ⟨C (i / 1024), i % 1024 * 9, none⟩)) ∧ w' = w := by
  have H : Hid _ := h
  have h3 := h.g3
  have e1 := nil_eq28
  clear h
  go_enter Yba.func11, Yba.ntmps11
  go_wp2_with (go_at_call 14; refine (live_any H.out i hi).mono ?_; rintro e w' ⟨rfl, hw⟩; cases hw)
  go_ret
  exact ⟨rfl, rfl⟩

/-- The undo log at block ub, its map at block mb empty. -/
structure UInv (w : World) (L : Nat → Nat × Nat) (B ub mb n : Nat) : Prop where
  u0 : w.cell? ⟨ub, 0, none⟩ = some (.int .i64 n)
  u1 : w.cell? ⟨ub, 1, none⟩ = some (.map (some mb))
  u2 : w.cell? ⟨ub, 2, none⟩ = some (.slice none 0 0)
  ul : L ub = (5, 0)
  ml : L mb = (6, 0)
  ms : mb < w.heap.size
  uB : B ≤ ub
  mB : B ≤ mb

theorem makeMap46 (w : World) : (Instr.makeMap 46 none).run Yba.prog w = .ok (.map (some w.heap.size)) (w.alloc (.map #[] 0)) := by kernel_rfl

theorem begin_world (w : World) (gb n : Nat) (hgs : gb < w.heap.size) :
    (((w.setCell ⟨gb, 3, none⟩ (.pointer (some ⟨w.heap.size + 1, 0, none⟩))).alloc (.map #[] 0)).alloc (.cells #[.int .i64 n, .map (some w.heap.size), .slice none 0 0] 48)).drew =
      ((w.drew.alloc (.map #[] 0)).alloc (.cells #[.int .i64 n, .map (some w.drew.heap.size), .slice none 0 0] 48)).setCell ⟨gb, 3, none⟩ (.pointer (some ⟨w.drew.heap.size + 1, 0, none⟩)) := by
  rw [World.setCell_alloc_past _ _ _ _ (by simp; omega), World.setCell_alloc_past _ _ _ _ (by simpa using hgs)]
  rfl

set_option maxRecDepth 100000 in
set_option maxHeartbeats 1000000 in
theorem begin_any (h : GInv w L B gb (.pointer none) n n ob pv C nc cv) :
    Calls Yba.prog 6 #[.pointer (some ⟨gb, 0, none⟩)] w fun e w' => e = .returned (.tuple #[]) ∧ ∃ wd, Keep L (fun _ => False) w wd ∧ wd.heap = w.heap ∧
      w' = ((wd.alloc (.map #[] 0)).alloc (.cells #[.int .i64 n, .map (some wd.heap.size), .slice none 0 0] 48)).setCell ⟨gb, 3, none⟩ (.pointer (some ⟨wd.heap.size + 1, 0, none⟩)) := by
  have h1 := h.g1
  have h2 := h.g2
  have h3 := h.g3
  have f3 := h.gf 3 (by omega)
  have hgs := h.gs
  have hmk := makeMap46
  have e1 := nil_eq28
  have hgs1 : gb < w.heap.size + 1 := by omega
  have hgs2 : gb < w.heap.size + 1 + 1 := by omega
  have hgn : gb ≠ w.heap.size := by omega
  have hgn1 : gb ≠ w.heap.size + 1 := by omega
  clear h
  go_enter Yba.func6, Yba.ntmps6
  go_wp2_with fail
  go_region_with ((go_at_call 7; refine (len_cell (ln := n) ?_).mono ?_; (first | exact h1 | exact alloc_cell hgs h1); rintro e w' ⟨rfl, hw⟩; cases hw))
  all_goals
    go_wp2_with fail
    go_end0
    exact ⟨rfl, w.drew, (Keep.refl L _ w).drew, rfl, begin_world w gb n hgs⟩

theorem begin_inv (h : GInv w L B gb (.pointer none) n n ob pv C nc cv) :
    Calls Yba.prog 6 #[.pointer (some ⟨gb, 0, none⟩)] w fun e w' => e = .returned (.tuple #[]) ∧ ∃ ub mb L', Agree w L L' ∧ Keep L Tg w w' ∧
      GInv w' L' B gb (.pointer (some ⟨ub, 0, none⟩)) n n ob pv C nc cv ∧ UInv w' L' B ub mb n ∧ w'.heap[mb]? = some (.map #[] 0) := by
  refine (begin_any h).mono ?_
  rintro e w' ⟨rfl, wd, kd, hh, rfl⟩
  have hs : wd.heap.size = w.heap.size := by rw [hh]
  have hgd : GInv wd L B gb (.pointer none) n n ob pv C nc cv := h.keep kd (Agree.refl _ _) (fun _ x => x.elim)
  have hag : Agree wd L (upd (upd L wd.heap.size (6, 0)) (wd.heap.size + 1) (5, 0)) := (Agree.upd wd L _ (Nat.le_refl _)).trans (Nat.le_refl _) (Agree.upd wd _ _ (by omega))
  have ka : Keep L (fun l => l = (1, 0)) wd ((wd.alloc (.map #[] 0)).alloc (.cells #[.int .i64 n, .map (some wd.heap.size), .slice none 0 0] 48)) := ((Keep.refl L _ wd).alloc _).alloc _
  have k : Keep L (fun l => l = (1, 0)) wd (((wd.alloc (.map #[] 0)).alloc (.cells #[.int .i64 n, .map (some wd.heap.size), .slice none 0 0] 48)).setCell ⟨gb, 3, none⟩ (.pointer (some ⟨wd.heap.size + 1, 0, none⟩))) :=
    ka.setCell (a := ⟨gb, 3, none⟩) h.gl _
  have hgb : gb < wd.heap.size := hgd.gs
  have c : ∀ {i : Nat} {v : Value}, wd.cell? ⟨gb, i, none⟩ = some v → ((wd.alloc (.map #[] 0)).alloc (.cells #[.int .i64 n, .map (some wd.heap.size), .slice none 0 0] 48)).cell? ⟨gb, i, none⟩ = some v := fun hc => alloc_cell (alloc_lt hgb) (alloc_cell hgb hc)
  refine ⟨rfl, wd.heap.size + 1, wd.heap.size, upd (upd L wd.heap.size (6, 0)) (wd.heap.size + 1) (5, 0), fun i hi => hag i (by omega), (kd.mono (fun _ x => x.elim)).trans' (k.mono (fun l hl => by rw [hl]; exact ⟨by simp, by simp⟩)), ?_, ?_, ?_⟩
  · exact hgd.turn k hag (fun l hl => .inl hl) (set_ne (c hgd.g0) (by omega)) (set_ne (c hgd.g1) (by omega)) (set_ne (c hgd.g2) (by omega)) (set_eq (c hgd.g3)) (fun o ho => by rw [World.frozen?_setCell]; exact alloc_free (alloc_lt hgb) (alloc_free hgb (hgd.gf o ho)))
      (hgd.cr.keep k hag (by simp)) (fun _ _ => rfl) (fun c h1 h2 => absurd h2 (by omega)) hgd.nle hgd.ncle (Nat.le_refl _) hgd.max
  · have hne : ∀ j, (⟨gb, 3, none⟩ : Addr) ≠ ⟨wd.heap.size + 1, j, none⟩ := fun j e => by have := congrArg Addr.block e; simp at this; omega
    have hB := h.gB
    refine ⟨?_, ?_, ?_, upd_same _ _ _, ?_, by simp [World.setCell]; omega, by omega, by omega⟩
    · rw [World.cell?_setCell_other _ _ _ _ (hne 0)]; exact World.cell?_alloc_at (w := wd.alloc (.map #[] 0)) #[_, _, _] 48 _ 0 (by simp)
    · rw [World.cell?_setCell_other _ _ _ _ (hne 1)]; exact World.cell?_alloc_at (w := wd.alloc (.map #[] 0)) #[_, _, _] 48 _ 1 (by simp)
    · rw [World.cell?_setCell_other _ _ _ _ (hne 2)]; exact World.cell?_alloc_at (w := wd.alloc (.map #[] 0)) #[_, _, _] 48 _ 2 (by simp)
    · unfold upd; rw [if_neg (by omega), if_pos rfl]
  · rw [Below.heap_setCell _ _ _ _ (by simp; omega), Below.heap_alloc _ _ _ (by simp)]
    exact heap_alloc_new wd _
end Go.Proofs.Ybulkexmym
