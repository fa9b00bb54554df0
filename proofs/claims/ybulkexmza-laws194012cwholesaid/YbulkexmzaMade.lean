/-
  WHAT sink.LawS194012CWhole LAYS IN MEMORY: the blocks' row, one block a round, one row of edges a round.
-/
import Derived.Test.YbulkexmzaPred
namespace Go.Proofs.Ybulkexmza
open Go.RowKit

/-- A block's six cells. -/
def bk (j : Nat) (sv : Value) (i : Nat) : Value :=
  if i = 0 then .int .i64 j else if i = 1 then .slice none 0 0 else if i = 2 then .int .u8 0 else if i = 3 then .pointer none else if i = 4 then sv else .int .i64 0

/-- i blocks are made. -/
structure Mk (w wr : World) (n i : Nat) : Prop where
  since : w.Since w.heap.size wr
  size : wr.heap.size = w.heap.size + 1 + i
  top : wr.rowIs w.heap.size 52 n (fun j => if j < i then .pointer (some ⟨w.heap.size + 1 + j, 0, none⟩) else .pointer none)
  blk : ∀ j, j < i → wr.rowIs (w.heap.size + 1 + j) 58 6 (bk j (.slice none 0 0))

theorem Mk.start (w : World) (n : Nat) : Mk w (w.alloc (.cells (madeCells #[.pointer none] n) 52)) n 0 :=
  ⟨(World.Since.refl _ _).alloc (Nat.le_refl _) _, by simp, (World.rowIs_made w _ n 52).congr (fun j _ => by simp), fun j hj => absurd hj (Nat.not_lt_zero _)⟩

theorem Mk.next {w wr : World} {n i : Nat} (h : Mk w wr n i) :
    Mk w ((wr.alloc (.cells #[.int .i64 i, .slice none 0 0, .int .u8 0, .pointer none, .slice none 0 0, .int .i64 0] 58)).setCell ⟨w.heap.size, i, none⟩ (.pointer (some ⟨wr.heap.size, 0, none⟩))) n (i + 1) := by
  have hnew := World.rowIs_alloc wr #[.int .i64 i, .slice none 0 0, .int .u8 0, .pointer none, .slice none 0 0, .int .i64 0] 58 (bk i (.slice none 0 0)) (by
    intro k hk
    have hk' : k = 0 ∨ k = 1 ∨ k = 2 ∨ k = 3 ∨ k = 4 ∨ k = 5 := by simp at hk; omega
    rcases hk' with rfl | rfl | rfl | rfl | rfl | rfl <;> rfl)
  have hs := h.size
  refine ⟨(h.since.alloc (by omega) _).setCell (Nat.le_refl _) _, by simp [hs]; omega, ((h.top.alloc _).set i _).congr (fun j _ => ?_), fun j hj => ?_⟩
  · by_cases e : j = i
    · subst e; simp [hs]
    · by_cases hlt : j < i
      · simp [e, hlt, show j < i + 1 by omega]
      · simp [e, hlt, show ¬ j < i + 1 by omega]
  · by_cases e : j = i
    · subst e
      rw [hs] at hnew
      exact hnew.setOther (by show w.heap.size + 1 + j ≠ w.heap.size; omega) _
    · exact ((h.blk j (by omega)).alloc _).setOther (by show w.heap.size + 1 + j ≠ w.heap.size; omega) _

/-- Where block j's edges lie when the first g rows are made. -/
def sv (S n : Nat) (L : Nat → Nat) (g j : Nat) : Value := if j < g then .slice (some ⟨S + 1 + n + j, 0, none⟩) (L j) (L j) else .slice none 0 0

/-- The blocks all made; the edges of the first g. -/
structure St (w wr : World) (n : Nat) (L : Nat → Nat) (T : Nat → Nat → Nat) (g : Nat) : Prop where
  since : w.Since w.heap.size wr
  size : wr.heap.size = w.heap.size + 1 + n + g
  top : wr.rowIs w.heap.size 52 n (fun j => .pointer (some ⟨w.heap.size + 1 + j, 0, none⟩))
  blk : ∀ j, j < n → wr.rowIs (w.heap.size + 1 + j) 58 6 (bk j (sv w.heap.size n L g j))
  suc : ∀ j, j < g → wr.rowIs (w.heap.size + 1 + n + j) 52 (L j) (fun k => .pointer (some ⟨w.heap.size + 1 + T j k, 0, none⟩))

theorem Mk.done {w wr : World} {n : Nat} (h : Mk w wr n n) (L : Nat → Nat) (T : Nat → Nat → Nat) : St w wr n L T 0 :=
  ⟨h.since, by rw [h.size]; omega, h.top.congr (fun j hj => by simp [hj]), fun j hj => (h.blk j hj).congr (fun i _ => by simp [sv]), fun j hj => absurd hj (Nat.not_lt_zero _)⟩

/-- .. and k of row g's. -/
structure Su (w wi : World) (n : Nat) (L : Nat → Nat) (T : Nat → Nat → Nat) (g k : Nat) : Prop where
  since : w.Since w.heap.size wi
  size : wi.heap.size = w.heap.size + 1 + n + g + 1
  top : wi.rowIs w.heap.size 52 n (fun j => .pointer (some ⟨w.heap.size + 1 + j, 0, none⟩))
  blk : ∀ j, j < n → wi.rowIs (w.heap.size + 1 + j) 58 6 (bk j (sv w.heap.size n L g j))
  suc : ∀ j, j < g → wi.rowIs (w.heap.size + 1 + n + j) 52 (L j) (fun k => .pointer (some ⟨w.heap.size + 1 + T j k, 0, none⟩))
  cur : wi.rowIs (w.heap.size + 1 + n + g) 52 (L g) (fun i => if i < k then .pointer (some ⟨w.heap.size + 1 + T g i, 0, none⟩) else .pointer none)

theorem St.open {w wr : World} {n : Nat} {L : Nat → Nat} {T : Nat → Nat → Nat} {g : Nat} (h : St w wr n L T g) : Su w (wr.alloc (.cells (madeCells #[.pointer none] (L g)) 52)) n L T g 0 := by
  have hnew := World.rowIs_made wr (.pointer none) (L g) 52
  rw [h.size] at hnew
  exact ⟨h.since.alloc (by rw [h.size]; omega) _, by simp [h.size], h.top.alloc _, fun j hj => (h.blk j hj).alloc _, fun j hj => (h.suc j hj).alloc _, hnew.congr (fun i _ => by simp)⟩

theorem Su.next {w wi : World} {n : Nat} {L : Nat → Nat} {T : Nat → Nat → Nat} {g k : Nat} (h : Su w wi n L T g k) :
    Su w (wi.setCell ⟨w.heap.size + 1 + n + g, k, none⟩ (.pointer (some ⟨w.heap.size + 1 + T g k, 0, none⟩))) n L T g (k + 1) := by
  refine ⟨h.since.setCell (by show w.heap.size ≤ w.heap.size + 1 + n + g; omega) _, by simp [h.size], h.top.setOther (by show w.heap.size ≠ w.heap.size + 1 + n + g; omega) _,
    fun j hj => (h.blk j hj).setOther (by show w.heap.size + 1 + j ≠ w.heap.size + 1 + n + g; omega) _, fun j hj => (h.suc j hj).setOther (by show w.heap.size + 1 + n + j ≠ w.heap.size + 1 + n + g; omega) _, (h.cur.set k _).congr (fun i _ => ?_)⟩
  by_cases e : i = k
  · subst e; simp
  · by_cases hlt : i < k
    · simp [e, hlt, show i < k + 1 by omega]
    · simp [e, hlt, show ¬ i < k + 1 by omega]

theorem Su.done {w wi : World} {n : Nat} {L : Nat → Nat} {T : Nat → Nat → Nat} {g : Nat} (h : Su w wi n L T g (L g)) (hg : g < n) :
    St w (wi.setCell ⟨w.heap.size + 1 + g, 4, none⟩ (.slice (some ⟨w.heap.size + 1 + n + g, 0, none⟩) (L g) (L g))) n L T (g + 1) := by
  refine ⟨h.since.setCell (by show w.heap.size ≤ w.heap.size + 1 + g; omega) _, by simp [h.size]; omega, h.top.setOther (by show w.heap.size ≠ w.heap.size + 1 + g; omega) _, fun j hj => ?_, fun j hj => ?_⟩
  · by_cases e : j = g
    · subst e
      refine ((h.blk j hj).set 4 _).congr (fun i _ => ?_)
      by_cases e4 : i = 4
      · subst e4; simp [bk, sv]
      · simp [bk, e4]
    · refine ((h.blk j hj).setOther (by show w.heap.size + 1 + j ≠ w.heap.size + 1 + g; omega) _).congr (fun i _ => ?_)
      have : sv w.heap.size n L g j = sv w.heap.size n L (g + 1) j := by
        by_cases hlt : j < g
        · simp [sv, hlt, show j < g + 1 by omega]
        · simp [sv, hlt, show ¬ j < g + 1 by omega]
      rw [this]
  · by_cases e : j = g
    · subst e
      exact (h.cur.setOther (by show w.heap.size + 1 + n + j ≠ w.heap.size + 1 + j; omega) _).congr (fun i hi => by simp [hi])
    · exact (h.suc j (by omega)).setOther (by show w.heap.size + 1 + n + j ≠ w.heap.size + 1 + g; omega) _

end Go.Proofs.Ybulkexmza
