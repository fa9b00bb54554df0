/-
  APPENDS TO THE MODEL's SLICES, as laws for the walk.
-/
import Derived.Test.YbulkexmymLp
namespace Go.Proofs.Ybulkexmym
open Go.RowKit

theorem Yba.info9 : (Yba.prog.info? 9).map (fun i => (i.zero, i.size, i.bytes)) = some (some (.string ⟨#[]⟩), 1, 16) := by kernel_rfl
theorem Yba.info21 : (Yba.prog.info? 21).map (fun i => (i.zero, i.size, i.bytes)) = some (some (.int .i32 0), 1, 4) := by kernel_rfl
theorem Yba.info32 : (Yba.prog.info? 32).map (fun i => (i.zero, i.size, i.bytes)) = some (some (.slice none 0 0), 1, 24) := by kernel_rfl

section
variable {w0 w : World} {L : Nat → Nat × Nat} {B gb : Nat} {un : Value} {n : Nat} {ob : Nat → Ob} {pv : Nat → Value} {C : Nat → Nat} {nc : Nat} {cv : Value}
variable {xd xw xo xp xs : List Value} {dv wv ov nv sv : Value} {N : Nat} {mv : Nat → Value} {ps : Nat → List Nat}
variable {ops : Array Oper} {rest : List Oper} {o : Oper} {a : Act} {Q : Exit → Act → World → Prop}

theorem All.row {q : Nat × Nat} {e : TypeId} {v : Value} {ys : List Value} (h : Row w L q B e v ys) (o : Obj) : Row (w.alloc o) (upd L w.heap.size (0, 0)) q B e v ys :=
  h.keep (T := fun _ => False) ((Keep.refl L _ w).alloc o) (Agree.upd w L (0, 0) (Nat.le_refl _)) (fun x => x)

theorem wp_appD (hgd : o.guard = none) (s x : Operand) (ho : o.op = .call { callee := .builtin .append, args := #[s, x], argTypes := #[31, 31] })
    (h : All w0 w L B gb un n ob pv C nc cv xd xw xo xp xs dv wv ov nv sv N mv ps) (hs : a.eval s = dv) (x0 : Value) (hx : a.eval x = .slice (some ⟨w.heap.size, 0, none⟩) 1 1) (h1 : x0.oneCell' = true) (m : Nat) (hm : xd.length = m) (hlen : m ≤ 100000)
    (K : ∀ g cap w' L', All w0 w' L' B gb un n ob pv C nc cv (xd ++ [x0]) xw xo xp xs (.slice (some ⟨g, 0, none⟩) (m + 1) cap) wv ov nv sv N mv ps → Agree w L L' → Keep L (fun l => 7 ≤ l.1) w w' → wpList Yba.prog ops Q rest (a.put o.dst (.slice (some ⟨g, 0, none⟩) (m + 1) cap)) w') :
    wpList Yba.prog ops Q (o :: rest) a (w.alloc (.cells #[x0] 9)) := by
  obtain ⟨i0, hi0, hz0, hz1, hz2⟩ := info_parts Yba.info9
  subst hm
  refine append_keep hgd s x 31 ho (upd L w.heap.size (0, 0)) (11, 0) B 9 i0 (.string ⟨#[]⟩) 16 Yba.underlying31 hi0 hz0 hz1 hz2 rfl dv xd hs (All.row h.d _) ⟨w.heap.size, 0, none⟩ x0 hx (World.cell?_alloc_at #[_] 9 _ 0 (by simp)) h1 hlen (by omega) (by have := h.bsz; simp; omega) ?_
  intro g cap w' hrow hkeep _
  exact K g cap w' _ (h.appD hkeep hrow) (app_agree _ _ _ _) ((app_keep hkeep).mono (fun l hl => by rw [hl]; simp))

theorem wp_appW (hgd : o.guard = none) (s x : Operand) (ho : o.op = .call { callee := .builtin .append, args := #[s, x], argTypes := #[32, 32] })
    (h : All w0 w L B gb un n ob pv C nc cv xd xw xo xp xs dv wv ov nv sv N mv ps) (hs : a.eval s = wv) (x0 : Value) (hx : a.eval x = .slice (some ⟨w.heap.size, 0, none⟩) 1 1) (h1 : x0.oneCell' = true) (m : Nat) (hm : xw.length = m) (hlen : m ≤ 100000)
    (K : ∀ g cap w' L', All w0 w' L' B gb un n ob pv C nc cv xd (xw ++ [x0]) xo xp xs dv (.slice (some ⟨g, 0, none⟩) (m + 1) cap) ov nv sv N mv ps → Agree w L L' → Keep L (fun l => 7 ≤ l.1) w w' → wpList Yba.prog ops Q rest (a.put o.dst (.slice (some ⟨g, 0, none⟩) (m + 1) cap)) w') :
    wpList Yba.prog ops Q (o :: rest) a (w.alloc (.cells #[x0] 37)) := by
  obtain ⟨i0, hi0, hz0, hz1, hz2⟩ := info_parts Yba.info37
  subst hm
  refine append_keep hgd s x 32 ho (upd L w.heap.size (0, 0)) (12, 0) B 37 i0 (.int .i32 0) 4 Yba.underlying32 hi0 hz0 hz1 hz2 rfl wv xw hs (All.row h.wl _) ⟨w.heap.size, 0, none⟩ x0 hx (World.cell?_alloc_at #[_] 37 _ 0 (by simp)) h1 hlen (by omega) (by have := h.bsz; simp; omega) ?_
  intro g cap w' hrow hkeep _
  exact K g cap w' _ (h.appW hkeep hrow) (app_agree _ _ _ _) ((app_keep hkeep).mono (fun l hl => by rw [hl]; simp))

theorem wp_appO (hgd : o.guard = none) (s x : Operand) (ho : o.op = .call { callee := .builtin .append, args := #[s, x], argTypes := #[32, 32] })
    (h : All w0 w L B gb un n ob pv C nc cv xd xw xo xp xs dv wv ov nv sv N mv ps) (hs : a.eval s = ov) (x0 : Value) (hx : a.eval x = .slice (some ⟨w.heap.size, 0, none⟩) 1 1) (h1 : x0.oneCell' = true) (m : Nat) (hm : xo.length = m) (hlen : m ≤ 100000)
    (K : ∀ g cap w' L', All w0 w' L' B gb un n ob pv C nc cv xd xw (xo ++ [x0]) xp xs dv wv (.slice (some ⟨g, 0, none⟩) (m + 1) cap) nv sv N mv ps → Agree w L L' → Keep L (fun l => 7 ≤ l.1) w w' → wpList Yba.prog ops Q rest (a.put o.dst (.slice (some ⟨g, 0, none⟩) (m + 1) cap)) w') :
    wpList Yba.prog ops Q (o :: rest) a (w.alloc (.cells #[x0] 37)) := by
  obtain ⟨i0, hi0, hz0, hz1, hz2⟩ := info_parts Yba.info37
  subst hm
  refine append_keep hgd s x 32 ho (upd L w.heap.size (0, 0)) (13, 0) B 37 i0 (.int .i32 0) 4 Yba.underlying32 hi0 hz0 hz1 hz2 rfl ov xo hs (All.row h.o _) ⟨w.heap.size, 0, none⟩ x0 hx (World.cell?_alloc_at #[_] 37 _ 0 (by simp)) h1 hlen (by omega) (by have := h.bsz; simp; omega) ?_
  intro g cap w' hrow hkeep _
  exact K g cap w' _ (h.appO hkeep hrow) (app_agree _ _ _ _) ((app_keep hkeep).mono (fun l hl => by rw [hl]; simp))

theorem wp_appP (hgd : o.guard = none) (s x : Operand) (ho : o.op = .call { callee := .builtin .append, args := #[s, x], argTypes := #[33, 33] })
    (h : All w0 w L B gb un n ob pv C nc cv xd xw xo xp xs dv wv ov nv sv N mv ps) (hs : a.eval s = nv) (x0 : Value) (hx : a.eval x = .slice (some ⟨w.heap.size, 0, none⟩) 1 1) (h1 : x0.oneCell' = true) (m : Nat) (hm : xp.length = m) (hlen : m ≤ 100000)
    (K : ∀ g cap w' L', All w0 w' L' B gb un n ob pv C nc cv xd xw xo (xp ++ [x0]) xs dv wv ov (.slice (some ⟨g, 0, none⟩) (m + 1) cap) sv N mv ps → Agree w L L' → Keep L (fun l => 7 ≤ l.1) w w' → wpList Yba.prog ops Q rest (a.put o.dst (.slice (some ⟨g, 0, none⟩) (m + 1) cap)) w') :
    wpList Yba.prog ops Q (o :: rest) a (w.alloc (.cells #[x0] 21)) := by
  obtain ⟨i0, hi0, hz0, hz1, hz2⟩ := info_parts Yba.info21
  subst hm
  refine append_keep hgd s x 33 ho (upd L w.heap.size (0, 0)) (14, 0) B 21 i0 (.int .i32 0) 4 Yba.underlying33 hi0 hz0 hz1 hz2 rfl nv xp hs (All.row h.p _) ⟨w.heap.size, 0, none⟩ x0 hx (World.cell?_alloc_at #[_] 21 _ 0 (by simp)) h1 hlen (by omega) (by have := h.bsz; simp; omega) ?_
  intro g cap w' hrow hkeep _
  exact K g cap w' _ (h.appP hkeep hrow) (app_agree _ _ _ _) ((app_keep hkeep).mono (fun l hl => by rw [hl]; simp))

theorem wp_appS (hgd : o.guard = none) (s x : Operand) (ho : o.op = .call { callee := .builtin .append, args := #[s, x], argTypes := #[34, 34] })
    (h : All w0 w L B gb un n ob pv C nc cv xd xw xo xp xs dv wv ov nv sv N mv ps) (hs : a.eval s = sv) (x0 : Value) (hx : a.eval x = .slice (some ⟨w.heap.size, 0, none⟩) 1 1) (h1 : x0.oneCell' = true) (m : Nat) (hm : xs.length = m) (hlen : m ≤ 100000)
    (K : ∀ g cap w' L', All w0 w' L' B gb un n ob pv C nc cv xd xw xo xp (xs ++ [x0]) dv wv ov nv (.slice (some ⟨g, 0, none⟩) (m + 1) cap) (N + 1) (fun i => if i = N then .slice none 0 0 else mv i) (fun i => if i = N then [] else ps i) → Agree w L L' → Keep L (fun l => 7 ≤ l.1) w w' → wpList Yba.prog ops Q rest (a.put o.dst (.slice (some ⟨g, 0, none⟩) (m + 1) cap)) w') :
    wpList Yba.prog ops Q (o :: rest) a (w.alloc (.cells #[x0] 32)) := by
  obtain ⟨i0, hi0, hz0, hz1, hz2⟩ := info_parts Yba.info32
  subst hm
  refine append_keep hgd s x 34 ho (upd L w.heap.size (0, 0)) (15, 0) B 32 i0 (.slice none 0 0) 24 Yba.underlying34 hi0 hz0 hz1 hz2 rfl sv xs hs (All.row h.s _) ⟨w.heap.size, 0, none⟩ x0 hx (World.cell?_alloc_at #[_] 32 _ 0 (by simp)) h1 hlen (by omega) (by have := h.bsz; simp; omega) ?_
  intro g cap w' hrow hkeep _
  exact K g cap w' _ (h.appS hkeep hrow) (app_agree _ _ _ _) ((app_keep hkeep).mono (fun l hl => by rw [hl]; simp))

theorem wp_appM {sg sn sc : Nat} (hgd : o.guard = none) (s x : Operand) (ho : o.op = .call { callee := .builtin .append, args := #[s, x], argTypes := #[32, 32] })
    (h : All w0 w L B gb un n ob pv C nc cv xd xw xo xp xs dv wv ov nv (.slice (some ⟨sg, 0, none⟩) sn sc) N mv ps) (j p : Nat) (hj : j < N) (hjs : j < xs.length) (hsn : xs.length = sn) (hs : a.eval s = mv j) (hx : a.eval x = .slice (some ⟨w.heap.size, 0, none⟩) 1 1)
    (m : Nat) (hm : (ps j).length = m) (hlen : m ≤ 100000)
    (K : ∀ g cap w', (∃ L', All w0 (w'.setCell ⟨sg, j, none⟩ (.slice (some ⟨g, 0, none⟩) (m + 1) cap)) L' B gb un n ob pv C nc cv xd xw xo xp (xs.set j (.slice (some ⟨g, 0, none⟩) (m + 1) cap)) dv wv ov nv (.slice (some ⟨sg, 0, none⟩) sn sc) N
        (fun i => if i = j then .slice (some ⟨g, 0, none⟩) (m + 1) cap else mv i) (fun i => if i = j then ps j ++ [p] else ps i) ∧ Agree w L L' ∧ Keep L (fun l => 7 ≤ l.1) w (w'.setCell ⟨sg, j, none⟩ (.slice (some ⟨g, 0, none⟩) (m + 1) cap))) → (∃ u, w'.cell? ⟨sg, j, none⟩ = some u) → w'.frozen? ⟨sg, j, none⟩ = false →
        wpList Yba.prog ops Q rest (a.put o.dst (.slice (some ⟨g, 0, none⟩) (m + 1) cap)) w') :
    wpList Yba.prog ops Q (o :: rest) a (w.alloc (.cells #[.int .i32 p] 37)) := by
  obtain ⟨i0, hi0, hz0, hz1, hz2⟩ := info_parts Yba.info37
  subst hm
  refine append_keep hgd s x 32 ho (upd L w.heap.size (0, 0)) (16, j) B 37 i0 (.int .i32 0) 4 Yba.underlying32 hi0 hz0 hz1 hz2 rfl (mv j) (ids (ps j)) hs (All.row (h.m j hj) _) ⟨w.heap.size, 0, none⟩ (.int .i32 p) hx (World.cell?_alloc_at #[_] 37 _ 0 (by simp)) rfl (by rw [ids_length]; exact hlen) (by omega) (by have := h.bsz; simp; omega) ?_
  intro g cap w' hrow hkeep _
  rw [ids_length] at hrow ⊢
  have hr : Row w' (upf (upd L w.heap.size (0, 0)) (w.alloc (.cells #[.int .i32 p] 37)).heap.size (16, j)) (16, j) B 37 (.slice (some ⟨g, 0, none⟩) ((ps j).length + 1) cap) (ids (ps j ++ [p])) := by rw [ids_append]; exact hrow
  have hs2 := h.s.keep (app_keep hkeep) (app_agree w (.cells #[.int .i32 p] 37) L (16, j)) (by simp)
  have hs3 : Row w' (upf (upd L w.heap.size (0, 0)) (w.alloc (.cells #[.int .i32 p] 37)).heap.size (16, j)) (15, 0) B 32 (.slice (some ⟨sg, 0, none⟩) xs.length sc) xs := by rw [hsn]; exact hs2
  have hag := app_agree w (.cells #[.int .i32 p] 37) L (16, j)
  have hsg : L sg = (15, 0) := h.s.lab sg rfl
  refine K g cap w' ⟨_, h.appM hkeep hr, hag, ((app_keep hkeep).mono (fun l hl => by rw [hl]; simp)).setCell (a := ⟨sg, j, none⟩) (by show 7 ≤ (L sg).1; rw [hsg]; simp) _⟩ ⟨_, hs3.cell j hjs⟩ (hs3.free j)
end
end Go.Proofs.Ybulkexmym
