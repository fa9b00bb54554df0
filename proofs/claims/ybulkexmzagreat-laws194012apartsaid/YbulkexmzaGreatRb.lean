/-
  A RANGE OVER AN ITERATOR WHOSE ROUNDS ARE KNOWN ONE BY ONE: round k is handed vals k.
-/
import Derived.Test.YbulkexmzaGreatSl
import Derived.RangeFuncNested
import Derived.RangeFuncBound
import Derived.RangeFuncCalls
import Derived.RangeFuncLeaves
import Derived.Shelf.Abstract
import Derived.OwnWalkIn
import Derived.TacticsInMore
import Derived.LoopNIn
import Derived.LoopIn
namespace Go.Proofs.YbulkexmzaGreat
open Go.RowKit Go.Shelf

/-- How a round's body may be left: by its end alone. -/
def endsIn (R : World → Prop) : Exit → Act → World → Prop
  | .normal, _, W => R W
  | _, _, _ => False

theorem wpIn_known {P : Program} {n gf : Nat} {lb : Array Value} {g : Operand} {ps : Array Tmp} {assign body : Code} {Q : Exit → Act → World → Prop} {a : Act} {w : World}
    (hg : a.eval g = .func (.func gf) #[] lb) (eg : ∀ args w, (callFunc gf args).run P w = .ok (.enter gf args) w)
    (N : Nat) (vals : Nat → Array Value) (hps : ∀ k, (vals k).size = ps.size) (J : Nat → World → Prop)
    (hJa : ∀ k W o, J k W → J k (W.alloc o)) (hJp : ∀ k W l o o', w.heap.size ≤ l → W.heap[l]? = some o → o.isCells = false → J k W → J k (W.putObj l o')) (h0 : J 0 w)
    (hit : ∀ (l : Nat) (W : World) (JJ : Nat → World → Prop), (∀ k W, JJ k W → J k W) → (∀ k W1, k < N → JJ k W1 → YieldAt Fence.wide (n - 1 - 1) P l (vals k) W1 fun e W' => e = .returned (.bool true) ∧ JJ (k + 1) W') → JJ 0 W →
      CallsIn Fence.wide (n - 1) P gf (#[.func (.yield l) #[] #[]] ++ lb) W fun e W' => (∃ v, e = .returned v) ∧ JJ N W')
    (a1 : Nat → Act)
    (hassign : ∀ (l k : Nat) (W : World) (K : Act → World → Prop), k < N → K (a1 k) W → assign.wpIn (Fence.wide.inRound l) (n - 1 - 1) P (Exit.then K (fun _ _ _ => False)) { tmps := (ps.zip (vals k)).foldl (fun t (p, v) => t.setIfInBounds p v) a.tmps, defers := [] } W)
    (hbody : ∀ (l k : Nat) (W : World), k < N → J k W → body.wpIn (Fence.wide.inRound l) (n - 1 - 1) P (endsIn fun W' => KeepsOthers W W' ∧ J (k + 1) W') (a1 k) W)
    (hdone : ∀ (D : Nat) (W : World), w.heap.size ≤ D → J N W → W.heap[D]? = some (.deferred (some [])) → Q .normal { a with defers := { target := .collected D, args := #[] } :: a.defers } W) :
    (Code.rangeFunc g ps assign body).wpIn Fence.wide n P Q a w := by
  refine wpIn_rangeFunc (fun fn hfn => ?_)
  obtain ⟨rc, hrc⟩ : ∃ rc : LoopState → Loop, rc = fun st => { state := st, pending := none, fn, tmps := a.tmps, params := ps, assign, body, defers := w.heap.size } := ⟨_, rfl⟩
  obtain ⟨W1, hW1⟩ : ∃ W1, (w.alloc (.deferred (some []))).alloc (.loop (rc .ready)) = W1 := ⟨_, rfl⟩
  have hl1 : W1.heap[w.heap.size + 1]? = some (.loop (rc .ready)) := by
    rw [← hW1]
    have := Go.Deep.blk_alloc_new (w.alloc (.deferred (some []))) (.loop (rc .ready))
    simpa using this
  have hd1 : W1.heap[w.heap.size]? = some (.deferred (some [])) := by
    rw [← hW1, Go.Deep.blk_alloc_lt _ _ _ (by simp)]
    exact Go.Deep.blk_alloc_new _ _
  refine ⟨w.heap.size + 1, [{ target := .collected w.heap.size, args := #[] }], W1, { target := .fn (.func gf) lb, args := #[.func (.yield (w.heap.size + 1)) #[] #[]] }, W1, gf, #[.func (.yield (w.heap.size + 1)) #[] #[]] ++ lb, W1, ?_, ?_, fun _ _ => trivial, ?_, (fun h => by cases h), ?_⟩
  · rw [← hW1, hrc]; exact run_enterLoop_outer _ _ _ _ _
  · simp only [resolve, hg]
    simp [go_sem]
  · simp [invoke, go_sem, eg]
  · refine (hit (w.heap.size + 1) W1 (fun k W => J k W ∧ W.heap[w.heap.size + 1]? = some (.loop (rc .ready)) ∧ W.heap[w.heap.size]? = some (.deferred (some []))) (fun _ _ h => h.1) ?_ ⟨by rw [← hW1]; exact hJa _ _ _ (hJa _ _ _ h0), hl1, hd1⟩).mono ?_
    · rintro k W hk ⟨hj, hl, hd⟩
      have hlt : w.heap.size + 1 < W.heap.size := (Array.getElem?_eq_some_iff.1 hl).1
      have hy := run_yield (P := P) (args := vals k) hl (by rw [hrc]; exact hps k)
      rw [hrc] at hy
      refine ⟨fn, _, assign, body, hy, roundIn_of_wpIn hfn (hassign _ k W _ hk ⟨_, run_beginRound hl (by rw [hrc]), ?_⟩)⟩
      refine wpIn_mono (hbody _ k _ hk (hJp _ _ _ _ _ (by omega) hl rfl hj)) ?_
      rintro e a3 W3 hp
      cases e with
      | normal =>
        obtain ⟨hko, hj3⟩ := hp
        have hl2 : W3.heap[w.heap.size + 1]? = some (.loop { rc .ready with state := .busy }) := hko.same _ _ (World.putObj_heap_same hlt) rfl
        have hd2 : W3.heap[w.heap.size]? = some (.deferred (some [])) := hko.same _ _ ((World.putObj_heap_other (by omega)).trans hd) rfl
        have hend := run_endRound (P := P) none hl2
        refine ⟨_, _, hend, rfl, hJp _ _ _ _ _ (by omega) hl2 rfl hj3, ?_, (World.putObj_heap_other (by omega)).trans hd2⟩
        rw [World.putObj_heap_same (Array.getElem?_eq_some_iff.1 hl2).1, hrc]
        rfl
      | _ => exact hp.elim
    · rintro e W2 ⟨⟨v, rfl⟩, hj, hl, hd⟩
      have hend := run_endLoop (P := P) hl (by rw [hrc]; simp)
      rw [hrc] at hend
      exact ⟨none, _, hend, hdone _ _ (Nat.le_refl _) (hJp _ _ _ _ _ (by omega) (by rw [hrc] at hl; exact hl) rfl hj) ((World.putObj_heap_other (by omega)).trans hd)⟩
end Go.Proofs.YbulkexmzaGreat
