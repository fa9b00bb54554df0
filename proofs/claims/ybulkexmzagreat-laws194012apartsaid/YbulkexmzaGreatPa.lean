/-
  MEMORY BY LABELS: what lies at label l is a row of cells at block E l, as B l says (B l = none: nothing). No two labels lie in one block.
-/
import Derived.Test.YbulkexmzaGreatOj
namespace Go.Proofs.YbulkexmzaGreat
open Go.RowKit

abbrev Lab := Nat × Nat × Nat × Nat
def lup {β : Type} (f : Lab → β) (k : Lab) (x : β) : Lab → β := fun j => if j = k then x else f j
theorem lup_same {β : Type} (f : Lab → β) (k : Lab) (x : β) : lup f k x k = x := by simp [lup]
theorem lup_other {β : Type} (f : Lab → β) {k j : Lab} (x : β) (h : j ≠ k) : lup f k x j = f j := by simp [lup, h]

structure Sg (w0 w : World) (E : Lab → Nat) (B : Lab → Option Lb) : Prop where
  since : w0.Since w0.heap.size w
  row : ∀ k lb, B k = some lb → RowOk w (E k) lb
  base : ∀ k lb, B k = some lb → w0.heap.size ≤ E k
  inj : ∀ k j lb lb', B k = some lb → B j = some lb' → E k = E j → k = j

section
variable {w0 w w' : World} {E : Lab → Nat} {B : Lab → Option Lb}
theorem Sg.start (w : World) (E : Lab → Nat) : Sg w w E (fun _ => none) := ⟨.refl _ _, fun _ _ h => (nomatch h), fun _ _ h => (nomatch h), fun _ _ _ _ h => (nomatch h)⟩
theorem Sg.drew (h : Sg w0 w E B) : Sg w0 w.drew E B := ⟨h.since.drew, fun k lb hk => (h.row k lb hk).of_block rfl, h.base, h.inj⟩
theorem Sg.drewN (h : Sg w0 w E B) (n : Nat) : Sg w0 (w.drewN n) E B := ⟨⟨h.since.os, h.since.tape, h.since.output, h.since.size, h.since.block⟩, fun k lb hk => (h.row k lb hk).of_block rfl, h.base, h.inj⟩
theorem Sg.later (h : Sg w0 w E B) (hs : w.Since w.heap.size w') : Sg w0 w' E B :=
  ⟨h.since.trans ⟨hs.os, hs.tape, hs.output, hs.size, fun i hi => hs.block i (Nat.lt_of_lt_of_le hi h.since.size)⟩, fun k lb hk => (h.row k lb hk).of_block (hs.block _ (h.row k lb hk).lt), h.base, h.inj⟩
theorem Sg.read (h : Sg w0 w E B) {k : Lab} {lb : Lb} (hk : B k = some lb) {i : Nat} (hi : i < lb.n) : ∃ v, w.cell? ⟨E k, i, none⟩ = some v ∧ lb.p i v := (h.row k lb hk).cell hi
theorem Sg.frz (h : Sg w0 w E B) {k : Lab} {lb : Lb} (hk : B k = some lb) (i : Nat) : w.frozen? ⟨E k, i, none⟩ = false := (h.row k lb hk).frozen i
theorem Sg.val (h : Sg w0 w E B) {k : Lab} {t : TypeId} {n : Nat} {D : Nat → Value} (hk : B k = some (vals t n D)) {i : Nat} (hi : i < n) : w.cell? ⟨E k, i, none⟩ = some (D i) := by
  obtain ⟨u, h1, h2⟩ := h.read hk (i := i) hi
  rw [h1]; exact congrArg some h2
theorem Sg.arr (h : Sg w0 w E B) {k : Lab} {n : Nat} {f : Nat → Int} (hk : B k = some (YbulkexmzaGreat.arr n f)) {i : Nat} (hi : i < n) : w.cell? ⟨E k, i, none⟩ = some (.int .i64 (f i)) := by
  obtain ⟨u, h1, h2⟩ := h.read hk (i := i) hi
  rw [h1]; exact congrArg some h2
theorem Sg.set (h : Sg w0 w E B) {k : Lab} {lb : Lb} (hk : B k = some lb) (lb' : Lb) (ht : lb'.t = lb.t) (hn : lb'.n = lb.n) {i : Nat} {v : Value} (hv : lb'.p i v) (ho : ∀ j u, j ≠ i → j < lb.n → lb.p j u → lb'.p j u) :
    Sg w0 (w.setCell ⟨E k, i, none⟩ v) E (lup B k (some lb')) := by
  have key : ∀ j lbj, lup B k (some lb') j = some lbj → ∃ lbo, B j = some lbo := fun j lbj hj => by
    by_cases e : j = k
    · subst e; exact ⟨lb, hk⟩
    · rw [lup_other _ _ e] at hj; exact ⟨lbj, hj⟩
  refine ⟨h.since.setCell (h.base k lb hk) _, fun j lbj hj => ?_, fun j lbj hj => ?_, fun i j a b hi hj e => ?_⟩
  · by_cases e : j = k
    · subst e
      rw [lup_same] at hj
      cases hj
      exact (h.row j lb hk).set lb' ht hn hv ho
    · rw [lup_other _ _ e] at hj
      exact (h.row j lbj hj).of_block (Go.Deep.blk_setCell_other _ _ _ _ (fun e' => e (h.inj j k _ _ hj hk e')))
  · obtain ⟨lbo, h1⟩ := key j lbj hj
    exact h.base j lbo h1
  · obtain ⟨x, h1⟩ := key i a hi
    obtain ⟨y, h2⟩ := key j b hj
    exact h.inj i j x y h1 h2 e
theorem Sg.setVal (h : Sg w0 w E B) {k : Lab} {t : TypeId} {n : Nat} {D : Nat → Value} (hk : B k = some (vals t n D)) (i : Nat) (v : Value) : Sg w0 (w.setCell ⟨E k, i, none⟩ v) E (lup B k (some (vals t n (upd D i v)))) :=
  h.set hk (vals t n (upd D i v)) rfl rfl (by show v = _; rw [upd_same]) (fun j u hj _ hp => by
    have hp' : u = D j := hp
    show u = _
    rw [hp', upd_other _ _ hj])
theorem Sg.setArr (h : Sg w0 w E B) {k : Lab} {n : Nat} {f : Nat → Int} (hk : B k = some (YbulkexmzaGreat.arr n f)) (i : Nat) (z : Int) : Sg w0 (w.setCell ⟨E k, i, none⟩ (.int .i64 z)) E (lup B k (some (YbulkexmzaGreat.arr n (upd f i z)))) :=
  h.set hk (YbulkexmzaGreat.arr n (upd f i z)) rfl rfl (by show _ = _; rw [upd_same]) (fun j u hj _ hp => by
    have hp' : u = .int .i64 (f j) := hp
    show u = _
    rw [hp', upd_other _ _ hj])
theorem Sg.wkn (h : Sg w0 w E B) {k : Lab} {lb : Lb} (hk : B k = some lb) (lb' : Lb) (ht : lb'.t = lb.t) (hn : lb'.n = lb.n) (hp : ∀ i v, i < lb.n → lb.p i v → lb'.p i v) : Sg w0 w E (lup B k (some lb')) := by
  have key : ∀ j lbj, lup B k (some lb') j = some lbj → ∃ lbo, B j = some lbo := fun j lbj hj => by
    by_cases e : j = k
    · subst e; exact ⟨lb, hk⟩
    · rw [lup_other _ _ e] at hj; exact ⟨lbj, hj⟩
  refine ⟨h.since, fun j lbj hj => ?_, fun j lbj hj => ?_, fun i j a b hi hj e => ?_⟩
  · by_cases e : j = k
    · subst e
      rw [lup_same] at hj
      cases hj
      exact (h.row j lb hk).wkn ht hn hp
    · rw [lup_other _ _ e] at hj
      exact h.row j lbj hj
  · obtain ⟨lbo, h1⟩ := key j lbj hj
    exact h.base j lbo h1
  · obtain ⟨x, h1⟩ := key i a hi
    obtain ⟨y, h2⟩ := key j b hj
    exact h.inj i j x y h1 h2 e
/-- A row that a step has made, under a label (in the place of what lay there). -/
theorem Sg.made (h : Sg w0 w E B) (hs : w.Since w.heap.size w') {g : Nat} (hg : w.heap.size ≤ g) {lb : Lb} (hr : RowOk w' g lb) (k : Lab) : Sg w0 w' (lup E k g) (lup B k (some lb)) := by
  have h' := h.later hs
  have hlt : ∀ j lbj, B j = some lbj → E j < w.heap.size := fun j lbj hj => (h.row j lbj hj).lt
  refine ⟨h'.since, fun j lbj hj => ?_, fun j lbj hj => ?_, fun i j a b hi hj e => ?_⟩
  · by_cases e : j = k
    · subst e
      rw [lup_same] at hj ⊢
      cases hj; exact hr
    · rw [lup_other _ _ e] at hj ⊢
      exact h'.row j lbj hj
  · by_cases e : j = k
    · subst e; rw [lup_same]; exact Nat.le_trans h.since.size hg
    · rw [lup_other _ _ e] at hj ⊢; exact h.base j lbj hj
  · by_cases e1 : i = k
    · by_cases e2 : j = k
      · rw [e1, e2]
      · subst e1
        rw [lup_other _ _ e2] at hj
        rw [lup_same, lup_other _ _ e2] at e
        have := hlt j b hj
        omega
    · by_cases e2 : j = k
      · subst e2
        rw [lup_other _ _ e1] at hi
        rw [lup_same, lup_other _ _ e1] at e
        have := hlt i a hi
        omega
      · rw [lup_other _ _ e1] at hi e
        rw [lup_other _ _ e2] at hj e
        exact h.inj i j a b hi hj e
theorem Sg.new (h : Sg w0 w E B) (c : Array Value) (t : TypeId) (k : Lab) (lb : Lb) (ht : lb.t = t) (hn : lb.n = c.size) (hp : ∀ i v, c[i]? = some v → lb.p i v) : Sg w0 (w.alloc (.cells c t)) (lup E k w.heap.size) (lup B k (some lb)) :=
  h.made (alloc_since _ _) (Nat.le_refl _) ⟨c, by rw [ht]; exact Go.Deep.blk_alloc_new _ _, hn.symm, hp⟩ k
theorem Sg.alloc (h : Sg w0 w E B) (o : Obj) : Sg w0 (w.alloc o) E B := h.later (alloc_since _ _)
theorem Sg.make (h : Sg w0 w E B) (z : Value) (n : Nat) (t : TypeId) (k : Lab) : Sg w0 (w.alloc (.cells (madeCells #[z] n) t)) (lup E k w.heap.size) (lup B k (some ⟨t, n, fun _ u => u = z⟩)) :=
  h.made (alloc_since _ _) (Nat.le_refl _) (rowOk_made _ _ _ _) k
theorem Sg.far (h : Sg w0 w E B) {k j : Lab} {lb lb' : Lb} (hk : B k = some lb) (hj : B j = some lb') (hne : k ≠ j) : E k ≠ E j := fun e => hne (h.inj k j _ _ hk hj e)
end

/-- v is a slice of len elements of one cell, nil (and empty) or at label k. -/
def Slg (E : Lab → Nat) (B : Lab → Option Lb) (k : Lab) (e : TypeId) (len cap : Nat) (q : Nat → Value → Prop) (v : Value) : Prop :=
  (v = .slice none 0 0 ∧ len = 0) ∨ (v = .slice (some ⟨E k, 0, none⟩) len cap ∧ B k = some (gl e 1 len cap q) ∧ len ≤ cap ∧ cap ≤ maxLen)
section
variable {w0 w w' : World} {E E' : Lab → Nat} {B B' : Lab → Option Lb} {k : Lab} {e : TypeId} {len cap : Nat} {q : Nat → Value → Prop} {v : Value}
theorem Slg.form (h : Slg E B k e len cap q v) : ∃ a c, v = .slice a len c ∧ len ≤ c ∧ (0 < len → a = some ⟨E k, 0, none⟩) := by
  rcases h with ⟨rfl, rfl⟩ | ⟨rfl, _, hc, _⟩
  · exact ⟨none, 0, rfl, Nat.le_refl _, fun h => absurd h (Nat.lt_irrefl _)⟩
  · exact ⟨_, _, rfl, hc, fun _ => rfl⟩
theorem Slg.cell (h : Slg E B k e len cap q v) (hS : Sg w0 w E B) {i : Nat} (hi : i < len) : ∃ u, w.cell? ⟨E k, i, none⟩ = some u ∧ q i u ∧ w.frozen? ⟨E k, i, none⟩ = false := by
  rcases h with ⟨_, rfl⟩ | ⟨_, hb, hle, _⟩
  · omega
  · obtain ⟨u, h1, h2⟩ := hS.read hb (i := i) (by show i < cap * 1; omega)
    exact ⟨u, h1, h2 (by omega), hS.frz hb i⟩
theorem Slg.congr (h : Slg E B k e len cap q v) (he : E' k = E k) (hb : B' k = B k) : Slg E' B' k e len cap q v := by
  unfold Slg at *
  rw [he, hb]; exact h
theorem Slg.owns (h : Slg E B k e len cap q v) (hS : Sg w0 w E B) : ∃ xs, w.ownsRow w0.heap.size e 1 v len xs ∧ ∀ i u, xs[i]? = some u → q i u := by
  rcases h with ⟨rfl, rfl⟩ | ⟨rfl, hb, hle, hm⟩
  · exact ⟨[], ⟨by simp, .inl ⟨rfl, rfl⟩⟩, fun i u h => by simp at h⟩
  · obtain ⟨c, hc, hn, hp⟩ := hS.row k _ hb
    have hn' : c.size = cap * 1 := hn
    refine ⟨c.toList.take (len * 1), ⟨by simp; omega, .inr ⟨E k, cap, c, rfl, hS.base k _ hb, hc, hle, hm, hn', rfl⟩⟩, fun i u hi => ?_⟩
    have hlt : i < len * 1 := by
      have := (List.getElem?_eq_some_iff.1 hi).1
      simp at this; omega
    rw [List.getElem?_take, if_pos hlt] at hi
    exact hp i u (by simpa using hi) hlt
/-- What holds behind an append of m elements to the slice at label k. -/
def Apg (w0 : World) (E : Lab → Nat) (B : Lab → Option Lb) (k : Lab) (e : TypeId) (len : Nat) (q' : Nat → Value → Prop) (v' : Value) (w' : World) : Prop :=
  ∃ E' B', Sg w0 w' E' B' ∧ (∀ l, l ≠ k → E' l = E l) ∧ (∀ l, l ≠ k → B' l = B l) ∧ ∃ cap, Slg E' B' k e len cap q' v'

theorem Slg.appended (h : Slg E B k e len cap q v) (hS : Sg w0 w E B) {xs news : List Value} {m g cap' : Nat} (hxl : xs.length = len * 1) (hxs : ∀ i u, xs[i]? = some u → q i u)
    (hown : w'.ownsRow w0.heap.size e 1 (.slice (some ⟨g, 0, none⟩) (len + m) cap') (len + m) (xs ++ news)) (hg : w.grownBy w' v.ownBlock) (hloc : v.ownBlock = some g ∨ g = w.heap.size)
    (q' : Nat → Value → Prop) (hq : ∀ i u, i < len → q i u → q' i u) (hz : ∀ j u, news[j]? = some u → q' (len + j) u) :
    Apg w0 E B k e (len + m) q' (.slice (some ⟨g, 0, none⟩) (len + m) cap') w' := by
  obtain ⟨_, ho⟩ := hown
  rcases ho with ⟨h1, _⟩ | ⟨g', c', cur, h1, hge, hcur, hle, hmx, hsz, htk⟩
  · simp at h1
  simp only [Value.slice.injEq, Option.some.injEq, Addr.mk.injEq, and_true, true_and] at h1
  obtain ⟨rfl, rfl⟩ := h1
  have hold : ∀ j lb, B j = some lb → j ≠ k → some (E j) ≠ v.ownBlock := fun j lb hj hne => by
    rcases h with ⟨rfl, _⟩ | ⟨rfl, hb, _⟩
    · simp [Value.ownBlock]
    · simp only [Value.ownBlock, ne_eq, Option.some.injEq]
      exact fun e => hne (hS.inj j k _ _ hj hb e)
  have hgj : ∀ j lb, B j = some lb → j ≠ k → E j ≠ g := fun j lb hj hne e => by
    rcases hloc with hl | hl
    · exact hold j lb hj hne (by rw [hl, e])
    · have := (hS.row j lb hj).lt; omega
  refine ⟨lup E k g, lup B k (some (gl e 1 (len + m) cap' q')), ⟨?_, fun j lb hj => ?_, fun j lb hj => ?_, fun i j a b hi hj e' => ?_⟩, fun l hl => lup_other _ _ hl, fun l hl => lup_other _ _ hl, cap', .inr ⟨by rw [lup_same], lup_same _ _ _, hle, hmx⟩⟩
  · refine hS.since.grown hg hS.since.size (fun b hb => ?_)
    rcases h with ⟨rfl, _⟩ | ⟨rfl, hbk, _⟩
    · simp [Value.ownBlock] at hb
    · simp only [Value.ownBlock, Option.some.injEq] at hb
      rw [← hb]; exact hS.base k _ hbk
  · by_cases ej : j = k
    · subst ej
      rw [lup_same] at hj ⊢
      cases hj
      refine ⟨cur, hcur, hsz, fun i u hi hlt => ?_⟩
      have hi' : (xs ++ news)[i]? = some u := by
        rw [← htk, List.getElem?_take, if_pos hlt]
        simpa using hi
      by_cases hlt' : i < xs.length
      · rw [List.getElem?_append_left hlt'] at hi'
        exact hq i u (by omega) (hxs i u hi')
      · rw [List.getElem?_append_right (by omega)] at hi'
        have := hz (i - xs.length) u hi'
        rwa [hxl, show len + (i - len * 1) = i by omega] at this
    · rw [lup_other _ _ ej] at hj ⊢
      exact (hS.row j lb hj).of_block (hg.block _ (hS.row j lb hj).lt (hold j lb hj ej))
  · by_cases ej : j = k
    · subst ej; rw [lup_same]; exact hge
    · rw [lup_other _ _ ej] at hj ⊢; exact hS.base j lb hj
  · by_cases e1 : i = k
    · by_cases e2 : j = k
      · rw [e1, e2]
      · rw [lup_other _ _ e2] at hj
        rw [e1, lup_same, lup_other _ _ e2] at e'
        exact absurd e'.symm (hgj j b hj e2)
    · by_cases e2 : j = k
      · rw [lup_other _ _ e1] at hi
        rw [e2, lup_same, lup_other _ _ e1] at e'
        exact absurd e' (hgj i a hi e1)
      · rw [lup_other _ _ e1] at hi e'
        rw [lup_other _ _ e2] at hj e'
        exact hS.inj i j a b hi hj e'
end
theorem run_append_0 {t e : TypeId} {bytes : Nat} (ht : Ety t e 1 bytes) (ty : TypeId) (w : World) (b a : Option Addr) (l c c' : Nat) (hl : l ≤ c) : (Builtin.append_ #[t, t] ty #[.slice b l c, .slice a 0 c']).run Ybaz.prog w = .ok (.slice b l c) w := by
  obtain ⟨z, hinfo, hzc⟩ := ht.info
  obtain ⟨i0, hi0, hz0, hz1, hz2⟩ := info_parts hinfo
  have hu := ht.under
  cases a <;> cases b <;> simp [Builtin.append_, run_underlying hu, sizeOf, typeInfo, hi0, Builtin.lenOf, Builtin.firstCells, loadCells, loadCellsFrom, storeCells, hl]
/-- THE LAW of an append, at the operation: m elements (none too). -/
theorem Slg.wp {w0 w : World} {E : Lab → Nat} {B : Lab → Option Lb} {k : Lab} {t e : TypeId} {bytes : Nat} {len cap : Nat} {q : Nat → Value → Prop} {v : Value} {o : Oper} {a : Act} {K : Act → World → Prop} {Q : Exit → Act → World → Prop} (ht : Ety t e 1 bytes) (s x : Operand) (ho : o.op = .call { callee := .builtin .append, args := #[s, x], argTypes := #[t, t] })
    (h : Slg E B k e len cap q v) (hS : Sg w0 w E B) (hs : a.eval s = v) (xa : Option Addr) (m c : Nat) (ns : List Value) (hx : a.eval x = .slice xa m c) (hnl : ns.length = m) (hnew : 0 < m → ∃ ad, xa = some ad ∧ ∀ j u, ns[j]? = some u → w.cell? (ad.add j) = some u) (h1 : ∀ u ∈ ns, u.oneCell' = true) (hlen : len + m ≤ 100000000000)
    (q' : Nat → Value → Prop) (hq : ∀ i u, i < len → q i u → q' i u) (hz : ∀ j u, ns[j]? = some u → q' (len + j) u)
    (hK : ∀ v' w', Apg w0 E B k e (len + m) q' v' w' → K (a.put o.dst v') w') : o.wp Ybaz.prog a w K Q := by
  by_cases hm : m = 0
  · subst hm
    obtain ⟨va, vc, hv, hc, _⟩ := h.form
    have hr := run_append_0 ht o.type w va xa len vc c hc
    have hap : Apg w0 E B k e (len + 0) q' v w := by
      rcases h with ⟨rfl, rfl⟩ | ⟨rfl, hb, hle, hmx⟩
      · exact ⟨E, B, hS, fun _ _ => rfl, fun _ _ => rfl, 0, .inl ⟨rfl, rfl⟩⟩
      · exact ⟨E, _, hS.wkn hb (gl e 1 len cap q') rfl rfl (fun i u hi hu hlt => hq i u (by omega) (hu hlt)), fun _ _ => rfl, fun l hl => lup_other _ _ hl, cap, .inr ⟨rfl, lup_same _ _ _, hle, hmx⟩⟩
    have hk := hK v w hap
    rw [hv] at hk hs
    unfold Oper.wp execOp
    simp only [ho, resolve, invoke, builtin, Sem.run_bind, Sem.run_pure, Result.andThen_ok, List.map_toArray, List.map_cons, List.map_nil, hs, hx, hr]
    exact hk
  · obtain ⟨z, hinfo, hzc⟩ := ht.info
    obtain ⟨i0, hi0, hz0, hz1, hz2⟩ := info_parts hinfo
    obtain ⟨xs, hown, hxs⟩ := h.owns hS
    obtain ⟨ad, rfl, hcell⟩ := hnew (by omega)
    have hb2 : (len + m) * bytes ≤ 140737488355328 := by
      have := Nat.mul_le_mul hlen ht.by_
      omega
    exact wp_append_lies w s x t ho w0.heap.size e i0 z 1 bytes ht.under hi0 hz0 hz1 hz2 hzc ht.pos v len xs hs hown ad m c ns hx (by omega) hcell h1 (by omega) (by unfold maxLen; omega) hb2 hS.since.size w.heap.size rfl
      (fun g cap' w' ho hg hloc _ => hK _ w' (h.appended hS hown.1 hxs ho hg hloc q' hq hz))
/-- .. in a list of operations. -/
theorem Slg.wpl {w0 w : World} {E : Lab → Nat} {B : Lab → Option Lb} {k : Lab} {t e : TypeId} {bytes : Nat} {len cap : Nat} {q : Nat → Value → Prop} {v : Value} {ops : Array Oper} {rest : List Oper} {o : Oper} {a : Act} {Q : Exit → Act → World → Prop} (ht : Ety t e 1 bytes) (hgd : o.guard = none) (s x : Operand) (ho : o.op = .call { callee := .builtin .append, args := #[s, x], argTypes := #[t, t] })
    (h : Slg E B k e len cap q v) (hS : Sg w0 w E B) (hs : a.eval s = v) (xa : Option Addr) (m c : Nat) (ns : List Value) (hx : a.eval x = .slice xa m c) (hnl : ns.length = m) (hnew : 0 < m → ∃ ad, xa = some ad ∧ ∀ j u, ns[j]? = some u → w.cell? (ad.add j) = some u) (h1 : ∀ u ∈ ns, u.oneCell' = true) (hlen : len + m ≤ 100000000000)
    (q' : Nat → Value → Prop) (hq : ∀ i u, i < len → q i u → q' i u) (hz : ∀ j u, ns[j]? = some u → q' (len + j) u)
    (hK : ∀ v' w', Apg w0 E B k e (len + m) q' v' w' → wpList Ybaz.prog ops Q rest (a.put o.dst v') w') : wpList Ybaz.prog ops Q (o :: rest) a w :=
  wpList_plain hgd fun _ hk => h.wp ht s x ho hS hs xa m c ns hx hnl hnew h1 hlen q' hq hz (fun v' w' ha => hk _ _ (hK v' w' ha))
theorem ety38 : Ety 38 50 1 8 := ⟨Ybaz.underlying38, ⟨.pointer none, by kernel_rfl, rfl⟩, by omega, by omega⟩
theorem ety29 : Ety 29 56 1 8 := ⟨Ybaz.underlying29, ⟨.pointer none, by kernel_rfl, rfl⟩, by omega, by omega⟩
theorem ety61 : Ety 61 38 1 24 := ⟨Ybaz.underlying61, ⟨.slice none 0 0, by kernel_rfl, rfl⟩, by omega, by omega⟩
end Go.Proofs.YbulkexmzaGreat
