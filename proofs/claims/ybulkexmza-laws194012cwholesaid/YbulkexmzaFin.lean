/-
  BEHIND predecessors: all that the checks read.
-/
import Derived.Test.YbulkexmzaMade
import Derived.BigQuiet
namespace Go.Proofs.Ybulkexmza
open Go.RowKit

/-- What the checks read. -/
structure Fin' (w wz : World) (n G : Nat) (L : Nat → Nat) (T : Nat → Nat → Nat) : Prop where
  since : w.Since w.heap.size wz
  top : wz.rowIs w.heap.size 52 n (fun j => .pointer (some ⟨w.heap.size + 1 + j, 0, none⟩))
  blk : ∀ j, j < n → wz.rowIs (w.heap.size + 1 + j) 58 6 (bk j (sv w.heap.size n L G j))
  suc : ∀ j, j < G → wz.rowIs (w.heap.size + 1 + n + j) 52 (L j) (fun k => .pointer (some ⟨w.heap.size + 1 + T j k, 0, none⟩))
  fc : wz.cell? ⟨w.heap.size + 1 + n + G, 11, none⟩ = some (.slice (some ⟨w.heap.size, 0, none⟩) n n)
  got : wz.rowIs (w.heap.size + 1 + n + G + 1) 3 n (fun j => .int .i64 (val T L n 0 j))

theorem Fin'.drew {w wz : World} {n G : Nat} {L : Nat → Nat} {T : Nat → Nat → Nat} (h : Fin' w wz n G L T) : Fin' w wz.drew n G L T :=
  ⟨h.since.drew, h.top.drew, fun j hj => (h.blk j hj).drew, fun j hj => (h.suc j hj).drew, h.fc, h.got.drew⟩
theorem Fin'.drewN {w wz : World} {n G : Nat} {L : Nat → Nat} {T : Nat → Nat → Nat} (h : Fin' w wz n G L T) : ∀ m, Fin' w (wz.drewN m) n G L T
  | 0 => h
  | m + 1 => (h.drewN m).drew

def fcells (S n : Nat) : Array Value :=
  #[.string ⟨#[]⟩, .string ⟨#[]⟩, .int .i64 0, .string ⟨#[]⟩, .string ⟨#[]⟩, .pointer none, .bool false, .slice none 0 0, .slice none 0 0, .slice none 0 0, .slice none 0 0, .slice (some ⟨S, 0, none⟩) n n]

theorem St.pred {w wr : World} {n G : Nat} {L : Nat → Nat} {T : Nat → Nat → Nat} (h : St w wr n L T G) (hn : 0 < n) (hn' : n ≤ 1024) (hsum : sumL L n ≤ 16384) (hL0 : ∀ j, G ≤ j → L j = 0) (hT : ∀ i k, T i k < n) :
    Calls Yba.prog 9 #[.pointer (some ⟨w.heap.size + 1 + n + G, 0, none⟩)] (wr.alloc (.cells (fcells w.heap.size n) 64)) fun e w' =>
      e = .returned (.slice (some ⟨w.heap.size + 1 + n + G + 1, 0, none⟩) n n) ∧ Fin' w w' n G L T := by
  have hs := h.size
  have hf : (wr.alloc (.cells (fcells w.heap.size n) 64)).cell? ⟨w.heap.size + 1 + n + G, 11, none⟩ = some (.slice (some ⟨w.heap.size, 0, none⟩) n n) := by
    rw [← hs]
    have := (World.rowIs_alloc wr (fcells w.heap.size n) 64 (fun i => ((fcells w.heap.size n)[i]?).getD default) (fun i hi => by simp [hi])).cell (i := 11) (by simp [fcells])
    rw [this]
    rfl
  have hb4 : ∀ j, j < n → (wr.alloc (.cells (fcells w.heap.size n) 64)).cell? ⟨w.heap.size + 1 + j, 4, none⟩ = some (.slice (if j < G then some ⟨w.heap.size + 1 + n + j, 0, none⟩ else none) (L j) (L j)) := fun j hj => by
    rw [((h.blk j hj).alloc _).cell (i := 4) (by omega)]
    by_cases e : j < G
    · simp [bk, sv, e]
    · simp [bk, sv, e, hL0 j (by omega)]
  refine (pred_any (wr.alloc (.cells (fcells w.heap.size n) 64)) (w.heap.size + 1 + n + G) w.heap.size n (fun j => w.heap.size + 1 + j) (fun j => if j < G then some ⟨w.heap.size + 1 + n + j, 0, none⟩ else none) (fun j => w.heap.size + 1 + n + j) L L T hn hn' hsum hf
    (fun j hj => (h.top.alloc _).cell hj) hb4 (fun j hj k hk => ?_) (fun j _ k _ => hT j k) (fun j hj => by rw [((h.blk j hj).alloc _).cell (i := 0) (by omega)]; simp [bk])).mono ?_
  · have hjG : j < G := by
      rcases Nat.lt_or_ge j G with h1 | h1
      · exact h1
      · have := hL0 j h1; omega
    exact ⟨by simp [hjG], ((h.suc j hjG).alloc _).cell hk⟩
  · rintro e w' ⟨rfl, hP⟩
    have hz : (wr.alloc (.cells (fcells w.heap.size n) 64)).heap.size = w.heap.size + 1 + n + G + 1 := by simp [hs]
    refine ⟨by rw [hz], ?_, (h.top.alloc _).of_block (hP.since.block _ (h.top.alloc _).lt), fun j hj => ((h.blk j hj).alloc _).of_block (hP.since.block _ ((h.blk j hj).alloc _).lt),
      fun j hj => ((h.suc j hj).alloc _).of_block (hP.since.block _ ((h.suc j hj).alloc _).lt), ?_, by rw [← hz]; exact hP.row⟩
    · have h1 : w.Since w.heap.size (wr.alloc (.cells (fcells w.heap.size n) 64)) := h.since.alloc (by omega) _
      refine h1.trans ⟨hP.since.os, hP.since.tape, hP.since.output, hP.since.size, fun k hk => hP.since.block k (by rw [hz]; omega)⟩
    · rw [hP.since.cell (by rw [hz]; show w.heap.size + 1 + n + G < _; omega)]; exact hf

theorem eqin52 (d : Nat) (a : Addr) (w : World) : (Op.equalIn (d + 1) 52 (.pointer (some a)) (.pointer (some a))).run Yba.prog w = .ok true w := by
  simp [Op.equalIn, run_underlying Yba.underlying52, sameAddr]
theorem neq52 (a : Addr) (w : World) : (binOp .neq 52 (.pointer (some a)) (.pointer (some a))).run Yba.prog w = .ok (.bool false) w := by
  simp only [binOp]
  simp [Op.equal, show Op.maxDepth = 9999 + 1 from rfl, eqin52]
theorem neq53 (w : World) : (binOp .neq 53 (.slice none 0 0) (.slice none 0 0)).run Yba.prog w = .ok (.bool false) w := by kernel_rfl
theorem neq55 (w : World) : (binOp .neq 55 (.pointer none) (.pointer none)).run Yba.prog w = .ok (.bool false) w := by kernel_rfl
end Go.Proofs.Ybulkexmza
