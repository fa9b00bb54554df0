/-
  SLICES THAT GROW, in registers.
-/
import Derived.Test.YbulkexmzaGreatSt
import Derived.Deep.AppendLies
namespace Go.Proofs.YbulkexmzaGreat
open Go.RowKit

/-- What is known of a growing slice's row: its first len elements' cells meet q. -/
def gl (e : TypeId) (size len cap : Nat) (q : Nat → Value → Prop) : Lb := ⟨e, cap * size, fun i u => i < len * size → q i u⟩

/-- v is a slice of len elements, nil (and empty) or in register k. -/
def Sl (E : Nat → Nat) (B : Nat → Lb) (k : Nat) (e : TypeId) (size len cap : Nat) (q : Nat → Value → Prop) (v : Value) : Prop :=
  (v = .slice none 0 0 ∧ len = 0) ∨ (v = .slice (some ⟨E k, 0, none⟩) len cap ∧ B k = gl e size len cap q ∧ len ≤ cap ∧ cap ≤ maxLen)

section
variable {w0 w w' : World} {K : Nat} {E : Nat → Nat} {B : Nat → Lb} {k : Nat} {e : TypeId} {size len cap : Nat} {q : Nat → Value → Prop} {v : Value}

theorem Sl.form (h : Sl E B k e size len cap q v) : ∃ a c, v = .slice a len c ∧ (0 < len → a = some ⟨E k, 0, none⟩) := by
  rcases h with ⟨rfl, rfl⟩ | ⟨rfl, _⟩
  · exact ⟨none, 0, rfl, fun h => absurd h (Nat.lt_irrefl _)⟩
  · exact ⟨_, _, rfl, fun _ => rfl⟩
/-- A cell of it. -/
theorem Sl.cell (h : Sl E B k e size len cap q v) (hS : St w0 w K E B) (hk : k < K) {i : Nat} (hi : i < len * size) : ∃ u, w.cell? ⟨E k, i, none⟩ = some u ∧ q i u ∧ w.frozen? ⟨E k, i, none⟩ = false := by
  rcases h with ⟨_, rfl⟩ | ⟨_, hb, hle, _⟩
  · simp at hi
  · have hc : len * size ≤ cap * size := Nat.mul_le_mul_right _ hle
    obtain ⟨u, h1, h2⟩ := hS.read k hk (i := i) (by rw [hb]; show i < cap * size; omega)
    rw [hb] at h2
    exact ⟨u, h1, h2 hi, hS.frz k hk i⟩

theorem Sl.owns (h : Sl E B k e size len cap q v) (hS : St w0 w K E B) (hk : k < K) : ∃ xs, w.ownsRow w0.heap.size e size v len xs ∧ ∀ i u, xs[i]? = some u → q i u := by
  rcases h with ⟨rfl, rfl⟩ | ⟨rfl, hb, hle, hm⟩
  · exact ⟨[], ⟨by simp, .inl ⟨rfl, rfl⟩⟩, fun i u h => by simp at h⟩
  · have hr := hS.row k hk
    rw [hb] at hr
    obtain ⟨c, hc, hn, hp⟩ := hr
    have hn' : c.size = cap * size := hn
    have hlc : len * size ≤ cap * size := Nat.mul_le_mul_right _ hle
    refine ⟨c.toList.take (len * size), ⟨by simp; omega, .inr ⟨E k, cap, c, rfl, hS.base k hk, hc, hle, hm, hn', rfl⟩⟩, fun i u hi => ?_⟩
    have hlt : i < len * size := by
      have := (List.getElem?_eq_some_iff.1 hi).1
      simp at this; omega
    rw [List.getElem?_take, if_pos hlt] at hi
    exact hp i u (by simpa using hi) hlt

/-- BEHIND AN append: the slice lies in register k again. -/
theorem Sl.appended (h : Sl E B k e size len cap q v) (hS : St w0 w K E B) (hk : k < K) {xs news : List Value} {m g cap' : Nat} 
    (hown : w'.ownsRow w0.heap.size e size (.slice (some ⟨g, 0, none⟩) (len + m) cap') (len + m) (xs ++ news)) (hg : w.grownBy w' v.ownBlock) (hloc : v.ownBlock = some g ∨ g = w.heap.size)
    (q' : Nat → Value → Prop) (hq : ∀ i u, (xs ++ news)[i]? = some u → q' i u) :
    St w0 w' K (upd E k g) (upd B k (gl e size (len + m) cap' q')) ∧ Sl (upd E k g) (upd B k (gl e size (len + m) cap' q')) k e size (len + m) cap' q' (.slice (some ⟨g, 0, none⟩) (len + m) cap') := by
  obtain ⟨_, ho⟩ := hown
  rcases ho with ⟨h1, _⟩ | ⟨g', c', cur, h1, hge, hcur, hle, hmx, hsz, htk⟩
  · simp at h1
  simp only [Value.slice.injEq, Option.some.injEq, Addr.mk.injEq, and_true, true_and] at h1
  obtain ⟨rfl, rfl⟩ := h1
  have hold : ∀ j, j < K → j ≠ k → some (E j) ≠ v.ownBlock := fun j hj hne => by
    rcases h with ⟨rfl, _⟩ | ⟨rfl, _⟩
    · simp [Value.ownBlock]
    · simp only [Value.ownBlock, ne_eq, Option.some.injEq]
      exact fun e => hne (hS.inj j k hj hk e)
  have hgj : ∀ j, j < K → j ≠ k → E j ≠ g := fun j hj hne e => by
    rcases hloc with hl | hl
    · exact hold j hj hne (by rw [hl, e])
    · have := (hS.row j hj).lt; omega
  refine ⟨⟨?_, fun j hj => ?_, fun j hj => ?_, fun i j hi hj e' => ?_⟩, .inr ⟨by rw [upd_same], upd_same _ _ _, hle, hmx⟩⟩
  · refine hS.since.grown hg hS.since.size (fun b hb => ?_)
    rcases h with ⟨rfl, _⟩ | ⟨rfl, _⟩
    · simp [Value.ownBlock] at hb
    · simp only [Value.ownBlock, Option.some.injEq] at hb
      rw [← hb]; exact hS.base k hk
  · by_cases ej : j = k
    · subst ej
      rw [upd_same, upd_same]
      refine ⟨cur, hcur, hsz, fun i u hi hlt => hq i u ?_⟩
      rw [← htk, List.getElem?_take, if_pos hlt]
      simpa using hi
    · rw [upd_other _ _ ej, upd_other _ _ ej]
      exact (hS.row j hj).of_block (hg.block _ (hS.row j hj).lt (hold j hj ej))
  · by_cases ej : j = k
    · subst ej; rw [upd_same]; exact hge
    · rw [upd_other _ _ ej]; exact hS.base j hj
  · by_cases e1 : i = k
    · by_cases e2 : j = k
      · omega
      · rw [e1, upd_same, upd_other _ _ e2] at e'
        exact absurd e'.symm (hgj j hj e2)
    · by_cases e2 : j = k
      · rw [e2, upd_same, upd_other _ _ e1] at e'
        exact absurd e' (hgj i hi e1)
      · rw [upd_other _ _ e1, upd_other _ _ e2] at e'
        exact hS.inj i j hi hj e'
end

/-- What the append laws ask of an element type. -/
structure Ety (t e : TypeId) (size bytes : Nat) : Prop where
  under : Ybaz.prog.underlying t = some (.slice e)
  info : ∃ z, (Ybaz.prog.info? e).map (fun i => (i.zero, i.size, i.bytes)) = some (some z, size, bytes) ∧ z.cells.size = size
  pos : 0 < size
  by_ : bytes ≤ 100
theorem ety3 : Ety 46 3 1 8 := ⟨Ybaz.underlying46, ⟨.int .i64 0, by kernel_rfl, rfl⟩, by omega, by omega⟩
theorem ety158 : Ety 156 158 2 16 := ⟨Ybaz.underlying156, ⟨.agg #[.int .i64 0, .int .i64 0], by kernel_rfl, rfl⟩, by omega, by omega⟩
theorem ety40 : Ety 39 40 1 8 := ⟨Ybaz.underlying39, ⟨.pointer none, by kernel_rfl, rfl⟩, by omega, by omega⟩

section
variable {w0 w : World} {K : Nat} {E : Nat → Nat} {B : Nat → Lb} {k t e size bytes : Nat} {len cap : Nat} {q : Nat → Value → Prop} {v : Value}

/-- What holds behind an append of one element (cells ns) to the slice in register k. -/
def Appd (w0 w : World) (K : Nat) (E : Nat → Nat) (B : Nat → Lb) (k e size len : Nat) (q' : Nat → Value → Prop) (g cap' : Nat) (w' : World) : Prop :=
  St w0 w' K (upd E k g) (upd B k (gl e size (len + 1) cap' q')) ∧ Sl (upd E k g) (upd B k (gl e size (len + 1) cap' q')) k e size (len + 1) cap' q' (.slice (some ⟨g, 0, none⟩) (len + 1) cap') ∧
    ∀ b, b < w.heap.size → b ≠ E k → w'.heap[b]? = w.heap[b]?

theorem app_back (h : Sl E B k e size len cap q v) (hS : St w0 w K E B) (hk : k < K) (ns : List Value) {xs : List Value} (hxl : xs.length = len * size) (hxs : ∀ i u, xs[i]? = some u → q i u)
    (q' : Nat → Value → Prop) (hq : ∀ i u, i < len * size → q i u → q' i u) (hz : ∀ j u, ns[j]? = some u → q' (len * size + j) u) {g cap' : Nat} {w' : World}
    (ho : w'.ownsRow w0.heap.size e size (.slice (some ⟨g, 0, none⟩) (len + 1) cap') (len + 1) (xs ++ ns)) (hg : w.grownBy w' v.ownBlock) (hloc : v.ownBlock = some g ∨ g = w.heap.size) : Appd w0 w K E B k e size len q' g cap' w' := by
  have hko : ∀ b, b < w.heap.size → b ≠ E k → w'.heap[b]? = w.heap[b]? := fun b hb hne => hg.block b hb (by
    rcases h with ⟨rfl, _⟩ | ⟨rfl, _⟩
    · simp [Value.ownBlock]
    · simpa [Value.ownBlock] using hne)
  have := h.appended hS hk (m := 1) (news := ns) ho hg hloc q' (fun i u hi => by
    by_cases hlt : i < xs.length
    · rw [List.getElem?_append_left hlt] at hi
      exact hq i u (by omega) (hxs i u hi)
    · rw [List.getElem?_append_right (by omega)] at hi
      have := hz (i - xs.length) u hi
      rwa [hxl, show len * size + (i - len * size) = i by omega] at this)
  exact ⟨this.1, this.2, hko⟩
theorem Appd.temp {e size len : Nat} {q' : Nat → Value → Prop} {g cap' : Nat} {w' : World} (h : Appd w0 w K E B k e size len q' g cap' w') {b : Nat} {o : Obj} (hb : w.heap[b]? = some o) (hne : E k < b) : w'.heap[b]? = some o :=
  (h.2.2 b (Array.getElem?_eq_some_iff.1 hb).1 (by omega)).trans hb

theorem wp_app {ops : Array Oper} {rest : List Oper} {o : Oper} {a : Act} {Q : Exit → Act → World → Prop} (ht : Ety t e size bytes) (hgd : o.guard = none) (s x : Operand) (ho : o.op = .call { callee := .builtin .append, args := #[s, x], argTypes := #[t, t] })
    (h : Sl E B k e size len cap q v) (hS : St w0 w K E B) (hk : k < K) (hs : a.eval s = v) (ad : Addr) (ns : List Value) (hx : a.eval x = .slice (some ad) 1 1) (hnl : ns.length = 1 * size) (hnew : ∀ j u, ns[j]? = some u → w.cell? (ad.add j) = some u) (h1 : ∀ u ∈ ns, u.oneCell' = true) (hlen : len ≤ 100000000000)
    (q' : Nat → Value → Prop) (hq : ∀ i u, i < len * size → q i u → q' i u) (hz : ∀ j u, ns[j]? = some u → q' (len * size + j) u)
    (hK : ∀ g cap' w', Appd w0 w K E B k e size len q' g cap' w' → wpList Ybaz.prog ops Q rest (a.put o.dst (.slice (some ⟨g, 0, none⟩) (len + 1) cap')) w') : wpList Ybaz.prog ops Q (o :: rest) a w := by
  obtain ⟨z, hinfo, hzc⟩ := ht.info
  obtain ⟨i0, hi0, hz0, hz1, hz2⟩ := info_parts hinfo
  obtain ⟨xs, hown, hxs⟩ := h.owns hS hk
  have hb2 : (len + 1) * bytes ≤ 140737488355328 := by
    have := Nat.mul_le_mul (show len + 1 ≤ 100000000001 by omega) ht.by_
    omega
  exact wpList_append_lies w hgd s x t ho w0.heap.size e i0 z size bytes ht.under hi0 hz0 hz1 hz2 hzc ht.pos v len xs hs hown ad 1 1 ns hx hnl hnew h1 (by omega) (by unfold maxLen; omega) hb2 hS.since.size w.heap.size rfl
    (fun g cap' w' ho hg hloc _ => hK g cap' w' (app_back h hS hk ns hown.1 hxs q' hq hz ho hg hloc))

theorem step_app {ops : Array Oper} {o : Oper} {a : Act} {Kk : Act → World → Prop} {Q : Exit → Act → World → Prop} {Ee : Prop} (ht : Ety t e size bytes) (hgd : o.guard = none) (s x : Operand) (ho : o.op = .call { callee := .builtin .append, args := #[s, x], argTypes := #[t, t] })
    (h : Sl E B k e size len cap q v) (hS : St w0 w K E B) (hk : k < K) (hs : a.eval s = v) (ad : Addr) (ns : List Value) (hx : a.eval x = .slice (some ad) 1 1) (hnl : ns.length = 1 * size) (hnew : ∀ j u, ns[j]? = some u → w.cell? (ad.add j) = some u) (h1 : ∀ u ∈ ns, u.oneCell' = true) (hlen : len ≤ 100000000000)
    (q' : Nat → Value → Prop) (hq : ∀ i u, i < len * size → q i u → q' i u) (hz : ∀ j u, ns[j]? = some u → q' (len * size + j) u)
    (hK : ∀ g cap' w', Appd w0 w K E B k e size len q' g cap' w' → Kk (a.put o.dst (.slice (some ⟨g, 0, none⟩) (len + 1) cap')) w') : if Region.wanted o (yielded ops a.tmps) = true then Oper.wp Ybaz.prog o a w Kk Q else Ee := by
  obtain ⟨z, hinfo, hzc⟩ := ht.info
  obtain ⟨i0, hi0, hz0, hz1, hz2⟩ := info_parts hinfo
  obtain ⟨xs, hown, hxs⟩ := h.owns hS hk
  have hb2 : (len + 1) * bytes ≤ 140737488355328 := by
    have := Nat.mul_le_mul (show len + 1 ≤ 100000000001 by omega) ht.by_
    omega
  exact step_append_lies w hgd s x t ho w0.heap.size e i0 z size bytes ht.under hi0 hz0 hz1 hz2 hzc ht.pos v len xs hs hown ad 1 1 ns hx hnl hnew h1 (by omega) (by unfold maxLen; omega) hb2 hS.since.size w.heap.size rfl
    (fun g cap' w' ho hg hloc _ => hK g cap' w' (app_back h hS hk ns hown.1 hxs q' hq hz ho hg hloc))
/-- The one cell of a new block. -/
theorem news1 (w : World) (v : Value) (t : TypeId) : ∀ j u, [v][j]? = some u → (w.alloc (.cells #[v] t)).cell? ((⟨w.heap.size, 0, none⟩ : Addr).add j) = some u :=
  World.news_of_block (w := w.alloc (.cells #[v] t)) (cs := #[v]) (t := t) (fr := (0, 0)) (Go.Deep.blk_alloc_new _ _)
theorem news2 (w : World) (v u : Value) (t : TypeId) : ∀ j x, [v, u][j]? = some x → (w.alloc (.cells #[v, u] t)).cell? ((⟨w.heap.size, 0, none⟩ : Addr).add j) = some x :=
  World.news_of_block (w := w.alloc (.cells #[v, u] t)) (cs := #[v, u]) (t := t) (fr := (0, 0)) (Go.Deep.blk_alloc_new _ _)
end
end Go.Proofs.YbulkexmzaGreat
