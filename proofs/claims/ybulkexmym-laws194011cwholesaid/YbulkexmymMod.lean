/-
  THE LAW's OWN MODEL beside the graph: five slices of the law's own, and a slice for each object's parts.
-/
import Derived.Test.YbulkexmymPart
namespace Go.Proofs.Ybulkexmym
open Go.RowKit

/-- A store into a row. -/
theorem Row.set {w : World} {L : Nat → Nat × Nat} {l : Nat × Nat} {B : Nat} {e : TypeId} {g n cap : Nat} {xs : List Value} (h : Row w L l B e (.slice (some ⟨g, 0, none⟩) n cap) xs) (j : Nat) (u : Value) :
    Row (w.setCell ⟨g, j, none⟩ u) L l B e (.slice (some ⟨g, 0, none⟩) n cap) (xs.set j u) := by
  obtain ⟨⟨h1, h2⟩, h3⟩ := h
  refine ⟨⟨by simp, ?_⟩, h3⟩
  rcases h2 with ⟨h2, _⟩ | ⟨g', cap', cur, h2, hb, hg, r1, r2, r3, r4⟩
  · simp at h2
  · simp only [Value.slice.injEq, Option.some.injEq, Addr.mk.injEq, and_true] at h2
    obtain ⟨rfl, rfl, rfl⟩ := h2
    refine .inr ⟨g, cap, cur.setIfInBounds j u, by simp, hb, ?_, by simpa using r1, r2, by simpa using r3, ?_⟩
    · simp [World.setCell, Array.getElem?_modify, hg]
    · rw [Array.toList_setIfInBounds, List.length_set, List.take_set, r4]

theorem Row.shape {w : World} {L : Nat → Nat × Nat} {l : Nat × Nat} {B : Nat} {e : TypeId} {v : Value} {xs : List Value} (h : Row w L l B e v xs) : ∃ a c, v = .slice a xs.length c := by
  rcases h.form with ⟨q1, q2⟩ | ⟨g, cap, q1, _⟩
  · exact ⟨_, _, by rw [q1, q2]; rfl⟩
  · exact ⟨_, _, q1⟩

/-- The graph, the model, and all that was there before. -/
structure All (w0 w : World) (L : Nat → Nat × Nat) (B gb : Nat) (un : Value) (n : Nat) (ob : Nat → Ob) (pv : Nat → Value) (C : Nat → Nat) (nc : Nat) (cv : Value)
    (xd xw xo xp xs : List Value) (dv wv ov nv sv : Value) (N : Nat) (mv : Nat → Value) (ps : Nat → List Nat) : Prop where
  g : GInv w L B gb un n n ob pv C nc cv
  lab0 : ∀ k, k < B → L k = (0, 0)
  below : Below B w0 w
  bsz : B ≤ w.heap.size
  d : Row w L (11, 0) B 9 dv xd
  wl : Row w L (12, 0) B 37 wv xw
  o : Row w L (13, 0) B 37 ov xo
  p : Row w L (14, 0) B 21 nv xp
  s : Row w L (15, 0) B 32 sv xs
  m : ∀ i, i < N → Row w L (16, i) B 37 (mv i) (ids (ps i))

section
variable {w0 w w' : World} {L L' : Nat → Nat × Nat} {B gb : Nat} {un : Value} {n : Nat} {ob : Nat → Ob} {pv : Nat → Value} {C : Nat → Nat} {nc : Nat} {cv : Value}
variable {xd xw xo xp xs : List Value} {dv wv ov nv sv : Value} {N : Nat} {mv : Nat → Value} {ps : Nat → List Nat}

/-- What turns neither the graph nor the model. -/
theorem All.keep (h : All w0 w L B gb un n ob pv C nc cv xd xw xo xp xs dv wv ov nv sv N mv ps) {T : Nat × Nat → Prop} (k : Keep L T w w') (ha : Agree w L L') (ht : ∀ l, T l → 17 ≤ l.1) :
    All w0 w' L' B gb un n ob pv C nc cv xd xw xo xp xs dv wv ov nv sv N mv ps := by
  have hn : ∀ {l : Nat × Nat}, l.1 < 17 → ¬ T l := fun hl x => by have := ht _ x; omega
  exact ⟨h.g.keep k ha (fun l hl => by have := ht l hl; omega), fun i hi => (ha i (Nat.lt_of_lt_of_le hi h.bsz)).trans (h.lab0 i hi), h.below.trans (k.below (fun i hi => by rw [h.lab0 i hi]; exact hn (by simp)) h.bsz), Nat.le_trans h.bsz k.size,
    h.d.keep k ha (hn (by simp)), h.wl.keep k ha (hn (by simp)), h.o.keep k ha (hn (by simp)), h.p.keep k ha (hn (by simp)), h.s.keep k ha (hn (by simp)), fun i hi => (h.m i hi).keep k ha (hn (by simp))⟩

/-- The graph has turned, the model has not. -/
theorem All.graph (h : All w0 w L B gb un n ob pv C nc cv xd xw xo xp xs dv wv ov nv sv N mv ps) {T : Nat × Nat → Prop} (k : Keep L T w w') (ha : Agree w L L') (ht : ∀ l, T l → 1 ≤ l.1 ∧ l.1 ≤ 6)
    {un' : Value} {n' : Nat} {ob' : Nat → Ob} {pv' : Nat → Value} {C' : Nat → Nat} {nc' : Nat} {cv' : Value} (hg : GInv w' L' B gb un' n' n' ob' pv' C' nc' cv') :
    All w0 w' L' B gb un' n' ob' pv' C' nc' cv' xd xw xo xp xs dv wv ov nv sv N mv ps := by
  have hn : ∀ {l : Nat × Nat}, l.1 < 1 ∨ 6 < l.1 → ¬ T l := fun hl x => by have := ht _ x; omega
  exact ⟨hg, fun i hi => (ha i (Nat.lt_of_lt_of_le hi h.bsz)).trans (h.lab0 i hi), h.below.trans (k.below (fun i hi => by rw [h.lab0 i hi]; exact hn (by simp)) h.bsz), Nat.le_trans h.bsz k.size,
    h.d.keep k ha (hn (by simp)), h.wl.keep k ha (hn (by simp)), h.o.keep k ha (hn (by simp)), h.p.keep k ha (hn (by simp)), h.s.keep k ha (hn (by simp)), fun i hi => (h.m i hi).keep k ha (hn (by simp))⟩

theorem All.added (h : All w0 w L B gb un n ob pv C nc cv xd xw xo xp xs dv wv ov nv sv N mv ps) {o : Ob} (ha : Added w L B gb un n ob pv C nc o w') :
    ∃ L' C' nc' cv', Agree w L L' ∧ Keep L Tg w w' ∧ All w0 w' L' B gb un (n + 1) (fun i => if i = n then o else ob i) (fun i => if i = n then .slice none 0 0 else pv i) C' nc' cv' xd xw xo xp xs dv wv ov nv sv N mv ps := by
  obtain ⟨L', C', nc', cv', hG, hI⟩ := ha
  exact ⟨L', C', nc', cv', hG.agree, hG.keep, h.graph hG.keep hG.agree (fun l hl => ⟨hl.1, by have := hl.2; omega⟩) hI⟩

/-- A one-cell block was laid, and one of the model's slices appended to. -/
theorem app_keep {q : Nat × Nat} {o : Obj} (k : Keep (upd L w.heap.size (0, 0)) (fun l => l = q) (w.alloc o) w') : Keep L (fun l => l = q) w w' :=
  ((Keep.refl L (fun l => l = q) w).alloc o).trans (Agree.upd w L _ (Nat.le_refl _)) k
theorem app_agree (w : World) (o : Obj) (L : Nat → Nat × Nat) (q : Nat × Nat) : Agree w L (upf (upd L w.heap.size (0, 0)) (w.alloc o).heap.size q) :=
  (Agree.upd w L _ (Nat.le_refl _)).trans (Nat.le_refl _) (Agree.upf w _ _ (by simp))

theorem All.head (h : All w0 w L B gb un n ob pv C nc cv xd xw xo xp xs dv wv ov nv sv N mv ps) {q : Nat × Nat} (hq : 7 ≤ q.1) (k : Keep L (fun l => l = q) w w') (ha : Agree w L L') :
    GInv w' L' B gb un n n ob pv C nc cv ∧ (∀ k, k < B → L' k = (0, 0)) ∧ Below B w0 w' ∧ B ≤ w'.heap.size :=
  ⟨h.g.keep k ha (fun l hl => by rw [hl]; omega), fun i hi => (ha i (Nat.lt_of_lt_of_le hi h.bsz)).trans (h.lab0 i hi), h.below.trans (k.below (fun i hi e => by rw [h.lab0 i hi] at e; rw [← e] at hq; simp at hq) h.bsz), Nat.le_trans h.bsz k.size⟩

theorem All.appD (h : All w0 w L B gb un n ob pv C nc cv xd xw xo xp xs dv wv ov nv sv N mv ps) {o : Obj} {v' : Value} {ys : List Value} (k0 : Keep (upd L w.heap.size (0, 0)) (fun l => l = (11, 0)) (w.alloc o) w')
    (hr : Row w' (upf (upd L w.heap.size (0, 0)) (w.alloc o).heap.size (11, 0)) (11, 0) B 9 v' ys) : All w0 w' (upf (upd L w.heap.size (0, 0)) (w.alloc o).heap.size (11, 0)) B gb un n ob pv C nc cv ys xw xo xp xs v' wv ov nv sv N mv ps := by
  have k := app_keep k0
  have ha := app_agree w o L (11, 0)
  obtain ⟨h1, h2, h3, h4⟩ := h.head (by simp) k ha
  exact ⟨h1, h2, h3, h4, hr, h.wl.keep k ha (by simp), h.o.keep k ha (by simp), h.p.keep k ha (by simp), h.s.keep k ha (by simp), fun i hi => (h.m i hi).keep k ha (by simp)⟩
theorem All.appW (h : All w0 w L B gb un n ob pv C nc cv xd xw xo xp xs dv wv ov nv sv N mv ps) {o : Obj} {v' : Value} {ys : List Value} (k0 : Keep (upd L w.heap.size (0, 0)) (fun l => l = (12, 0)) (w.alloc o) w')
    (hr : Row w' (upf (upd L w.heap.size (0, 0)) (w.alloc o).heap.size (12, 0)) (12, 0) B 37 v' ys) : All w0 w' (upf (upd L w.heap.size (0, 0)) (w.alloc o).heap.size (12, 0)) B gb un n ob pv C nc cv xd ys xo xp xs dv v' ov nv sv N mv ps := by
  have k := app_keep k0
  have ha := app_agree w o L (12, 0)
  obtain ⟨h1, h2, h3, h4⟩ := h.head (by simp) k ha
  exact ⟨h1, h2, h3, h4, h.d.keep k ha (by simp), hr, h.o.keep k ha (by simp), h.p.keep k ha (by simp), h.s.keep k ha (by simp), fun i hi => (h.m i hi).keep k ha (by simp)⟩
theorem All.appO (h : All w0 w L B gb un n ob pv C nc cv xd xw xo xp xs dv wv ov nv sv N mv ps) {o : Obj} {v' : Value} {ys : List Value} (k0 : Keep (upd L w.heap.size (0, 0)) (fun l => l = (13, 0)) (w.alloc o) w')
    (hr : Row w' (upf (upd L w.heap.size (0, 0)) (w.alloc o).heap.size (13, 0)) (13, 0) B 37 v' ys) : All w0 w' (upf (upd L w.heap.size (0, 0)) (w.alloc o).heap.size (13, 0)) B gb un n ob pv C nc cv xd xw ys xp xs dv wv v' nv sv N mv ps := by
  have k := app_keep k0
  have ha := app_agree w o L (13, 0)
  obtain ⟨h1, h2, h3, h4⟩ := h.head (by simp) k ha
  exact ⟨h1, h2, h3, h4, h.d.keep k ha (by simp), h.wl.keep k ha (by simp), hr, h.p.keep k ha (by simp), h.s.keep k ha (by simp), fun i hi => (h.m i hi).keep k ha (by simp)⟩
theorem All.appP (h : All w0 w L B gb un n ob pv C nc cv xd xw xo xp xs dv wv ov nv sv N mv ps) {o : Obj} {v' : Value} {ys : List Value} (k0 : Keep (upd L w.heap.size (0, 0)) (fun l => l = (14, 0)) (w.alloc o) w')
    (hr : Row w' (upf (upd L w.heap.size (0, 0)) (w.alloc o).heap.size (14, 0)) (14, 0) B 21 v' ys) : All w0 w' (upf (upd L w.heap.size (0, 0)) (w.alloc o).heap.size (14, 0)) B gb un n ob pv C nc cv xd xw xo ys xs dv wv ov v' sv N mv ps := by
  have k := app_keep k0
  have ha := app_agree w o L (14, 0)
  obtain ⟨h1, h2, h3, h4⟩ := h.head (by simp) k ha
  exact ⟨h1, h2, h3, h4, h.d.keep k ha (by simp), h.wl.keep k ha (by simp), h.o.keep k ha (by simp), hr, h.s.keep k ha (by simp), fun i hi => (h.m i hi).keep k ha (by simp)⟩
/-- partsOf: one more object that has no parts. -/
theorem All.appS (h : All w0 w L B gb un n ob pv C nc cv xd xw xo xp xs dv wv ov nv sv N mv ps) {o : Obj} {v' : Value} {ys : List Value} (k0 : Keep (upd L w.heap.size (0, 0)) (fun l => l = (15, 0)) (w.alloc o) w')
    (hr : Row w' (upf (upd L w.heap.size (0, 0)) (w.alloc o).heap.size (15, 0)) (15, 0) B 32 v' ys) :
    All w0 w' (upf (upd L w.heap.size (0, 0)) (w.alloc o).heap.size (15, 0)) B gb un n ob pv C nc cv xd xw xo xp ys dv wv ov nv v' (N + 1) (fun i => if i = N then .slice none 0 0 else mv i) (fun i => if i = N then [] else ps i) := by
  have k := app_keep k0
  have ha := app_agree w o L (15, 0)
  obtain ⟨h1, h2, h3, h4⟩ := h.head (by simp) k ha
  refine ⟨h1, h2, h3, h4, h.d.keep k ha (by simp), h.wl.keep k ha (by simp), h.o.keep k ha (by simp), h.p.keep k ha (by simp), hr, fun i hi => ?_⟩
  by_cases e : i = N
  · simp only [if_pos e]; exact Row.nil _ _ _ _ _
  · simp only [if_neg e]; exact (h.m i (by omega)).keep k ha (by simp)
/-- partsOf[j]: one part more; the store into partsOf. -/
theorem All.appM {sg sn sc : Nat} (h : All w0 w L B gb un n ob pv C nc cv xd xw xo xp xs dv wv ov nv (.slice (some ⟨sg, 0, none⟩) sn sc) N mv ps) {o : Obj} {v' : Value} {j : Nat} {ys : List Nat}
    (k0 : Keep (upd L w.heap.size (0, 0)) (fun l => l = (16, j)) (w.alloc o) w')
    (hr : Row w' (upf (upd L w.heap.size (0, 0)) (w.alloc o).heap.size (16, j)) (16, j) B 37 v' (ids ys)) :
    All w0 (w'.setCell ⟨sg, j, none⟩ v') (upf (upd L w.heap.size (0, 0)) (w.alloc o).heap.size (16, j)) B gb un n ob pv C nc cv xd xw xo xp (xs.set j v') dv wv ov nv (.slice (some ⟨sg, 0, none⟩) sn sc) N
      (fun i => if i = j then v' else mv i) (fun i => if i = j then ys else ps i) := by
  have k := app_keep k0
  have ha := app_agree w o L (16, j)
  obtain ⟨h1, h2, h3, h4⟩ := h.head (by simp) k ha
  have hsl : L sg = (15, 0) := h.s.lab sg rfl
  have hslt : sg < w.heap.size := (World.ownsRow.lt h.s.own sg rfl).2
  have hl2 : upf (upd L w.heap.size (0, 0)) (w.alloc o).heap.size (16, j) sg = (15, 0) := (ha sg hslt).trans hsl
  have k2 : Keep (upf (upd L w.heap.size (0, 0)) (w.alloc o).heap.size (16, j)) (fun l => l = (15, 0)) w' (w'.setCell ⟨sg, j, none⟩ v') := (Keep.refl _ _ w').setCell (a := ⟨sg, j, none⟩) hl2 _
  have aa := Agree.refl w' (upf (upd L w.heap.size (0, 0)) (w.alloc o).heap.size (16, j))
  have hs' := (h.s.keep k ha (by simp)).set j v'
  refine ⟨h1.keep k2 aa (fun l hl => by rw [hl]; simp), h2, h3.trans (k2.below (fun i hi => by rw [h2 i hi]; simp) h4), Nat.le_trans h4 k2.size,
    (h.d.keep k ha (by simp)).keep k2 aa (by simp), (h.wl.keep k ha (by simp)).keep k2 aa (by simp), (h.o.keep k ha (by simp)).keep k2 aa (by simp), (h.p.keep k ha (by simp)).keep k2 aa (by simp), hs', fun i hi => ?_⟩
  by_cases e : i = j
  · subst e; simp only [if_true]; exact hr.keep k2 aa (by simp)
  · simp only [if_neg e]; exact ((h.m i hi).keep k ha (by simpa using e)).keep k2 aa (by simp)
end
end Go.Proofs.Ybulkexmym
