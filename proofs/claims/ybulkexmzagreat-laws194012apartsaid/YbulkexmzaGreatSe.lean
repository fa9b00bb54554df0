/-
  THE WALK over search (58), ir.newDominance's second closure.
-/
import Derived.Test.YbulkexmzaGreatRc
namespace Go.Proofs.YbulkexmzaGreat
open Go.RowKit

/-- A function's blocks: n of them, block i's struct at bk i, its successor sc i (at most one). -/
structure Cfg (w : World) (fb n : Nat) (bk : Nat → Nat) (sc : Nat → Option Nat) : Prop where
  blocks : ∃ bb bo bc, w.cell? ⟨fb, 11, none⟩ = some (.slice (some ⟨bb, bo, none⟩) n bc) ∧ ∀ i, i < n → w.cell? ⟨bb, bo + i, none⟩ = some (.pointer (some ⟨bk i, 0, none⟩))
  id : ∀ i, i < n → w.cell? ⟨bk i, 0, none⟩ = some (.int .i64 (i : Nat))
  succ : ∀ i, i < n → (sc i = none ∧ w.cell? ⟨bk i, 4, none⟩ = some (.slice none 0 0)) ∨
    ∃ t sb so c, sc i = some t ∧ t < n ∧ w.cell? ⟨bk i, 4, none⟩ = some (.slice (some ⟨sb, so, none⟩) 1 c) ∧ w.cell? ⟨sb, so, none⟩ = some (.pointer (some ⟨bk t, 0, none⟩))
theorem Cfg.since {w w' : World} {fb n : Nat} {bk : Nat → Nat} {sc : Nat → Option Nat} (h : Cfg w fb n bk sc) (hs : w.Since w.heap.size w') : Cfg w' fb n bk sc := by
  have k : ∀ {a v}, w.cell? a = some v → w'.cell? a = some v := fun e => (hs.cell (World.block_lt_of_cell? _ _ e)).trans e
  refine ⟨?_, fun i hi => k (h.id i hi), fun i hi => ?_⟩
  · obtain ⟨bb, bo, bc, h1, h2⟩ := h.blocks
    exact ⟨bb, bo, bc, k h1, fun i hi => k (h2 i hi)⟩
  · rcases h.succ i hi with ⟨h1, h2⟩ | ⟨t, sb, so, c, h1, h2, h3, h4⟩
    · exact .inl ⟨h1, k h2⟩
    · exact .inr ⟨t, sb, so, c, h1, h2, k h3, k h4⟩

/-- How many successors. -/
def ns (sc : Nat → Option Nat) (i : Nat) : Nat := if (sc i).isSome then 1 else 0
theorem ns_le (sc : Nat → Option Nat) (i : Nat) : ns sc i ≤ 1 := by unfold ns; split <;> omega
def wt (sc : Nat → Option Nat) : List (Nat × Nat) → Nat
  | [] => 0
  | z :: r => 1 + (ns sc z.1 - z.2) + wt sc r
theorem wt_append (sc : Nat → Option Nat) (a b : List (Nat × Nat)) : wt sc (a ++ b) = wt sc a + wt sc b := by
  induction a with
  | nil => simp [wt]
  | cons z r ih => simp only [List.cons_append, wt, ih]; omega

/-- What the search keeps of the registers. -/
structure Kept (E E' : Nat → Nat) (B B' : Nat → Lb) : Prop where
  e : ∀ k, k ≠ 6 → k ≠ 7 → k ≠ 8 → k ≠ 9 → E' k = E k
  b : ∀ k, 10 ≤ k → B' k = B k
theorem Kept.refl (E : Nat → Nat) (B : Nat → Lb) : Kept E E B B := ⟨fun _ _ _ _ _ => rfl, fun _ _ => rfl⟩
theorem Kept.trans {E E' E'' : Nat → Nat} {B B' B'' : Nat → Lb} (h : Kept E E' B B') (k : Kept E' E'' B' B'') : Kept E E'' B B'' :=
  ⟨fun j h6 h7 h8 h9 => (k.e j h6 h7 h8 h9).trans (h.e j h6 h7 h8 h9), fun j hj => (k.b j hj).trans (h.b j hj)⟩

/-- The value of the closure reach. -/
def reachV (E : Nat → Nat) : Value := .func (.func 57) #[] #[.pointer (some ⟨E 1, 0, none⟩), .pointer (some ⟨E 0, 0, none⟩), .pointer (some ⟨E 2, 0, none⟩), .pointer (some ⟨E 4, 0, none⟩)]

section
variable {w0 w : World} {E : Nat → Nat} {B : Nat → Lb} {n m : Nat} {f : Nat → Int} {stk : List (Nat × Nat)} {pst : List Nat} {b x : Nat}

/-- The top entry moves on to its next successor. -/
theorem Ds.next (h : Ds w0 w E B n m f (stk ++ [(b, x)]) pst) : ∃ B', (∀ k, k ≠ 9 → B' k = B k) ∧ Ds w0 (w.setCell ⟨E 9, stk.length * 2 + 1, none⟩ (.int .i64 ((x + 1 : Nat) : Int))) E B' n m f (stk ++ [(b, x + 1)]) pst := by
  obtain ⟨v, c, hb4, hT⟩ := h.b4
  rcases hT with ⟨_, h0⟩ | ⟨hv, h9, hle, hmx⟩
  · simp at h0
  have hl : (stk ++ [(b, x)]).length = stk.length + 1 := by simp
  have hl' : (stk ++ [(b, x + 1)]).length = stk.length + 1 := by simp
  have hst := h.st.set 9 (by omega) (gl 158 2 (stk.length + 1) c (qs (stk ++ [(b, x + 1)]))) (by rw [h9]; rfl) (by rw [h9]; rfl) (i := stk.length * 2 + 1) (v := .int .i64 ((x + 1 : Nat) : Int))
    (fun _ => ⟨(b, x + 1), by rw [show (stk.length * 2 + 1) / 2 = stk.length by omega]; simp, by rw [if_neg (by omega)]⟩)
    (fun j u hj hlt hu hjl => by
      rw [h9, hl] at hu
      obtain ⟨z, h1, h2⟩ := hu hjl
      by_cases e : j / 2 = stk.length
      · have hj2 : j = stk.length * 2 := by omega
        rw [e] at h1
        simp at h1
        subst h1
        refine ⟨(b, x + 1), by rw [e]; simp, ?_⟩
        rw [if_pos (by omega)] at h2 ⊢
        exact h2
      · rw [List.getElem?_append_left (by omega)] at h1
        exact ⟨z, by rw [List.getElem?_append_left (by omega)]; exact h1, h2⟩)
  refine ⟨upd B 9 (gl 158 2 (stk.length + 1) c (qs (stk ++ [(b, x + 1)]))), fun k hk => upd_other _ _ hk, hst, h.b0, h.b5, h.b1, h.b2, h.b3, ⟨v, c, hb4, .inr ⟨?_, ?_, ?_, hmx⟩⟩, h.fr, h.cnt, ?_, h.pv, ?_⟩
  · rw [hv, hl, hl']
  · rw [upd_same, hl']
  · rw [hl']; rw [hl] at hle; exact hle
  · intro z hz
    rcases List.mem_append.1 hz with h1 | h1
    · exact h.sv z (List.mem_append_left _ h1)
    · have : z = (b, x + 1) := by simpa using h1
      subst this
      exact h.sv (b, x) (by simp)
  · have := h.nd
    simpa using this

theorem box_set {w0 w : World} {K : Nat} {E : Nat → Nat} {B : Nat → Lb} (h : St w0 w K E B) (k : Nat) (hk : k < K) {t : TypeId} {v0 : Value} (hb : B k = bx t v0) (v : Value) : St w0 (w.setCell ⟨E k, 0, none⟩ v) K E (upd B k (bx t v)) :=
  h.set k hk (bx t v) (by rw [hb]; rfl) (by rw [hb]; rfl) (i := 0) rfl (fun j u hj hlt _ => by
    rw [hb] at hlt
    have : j < 1 := hlt
    omega)

/-- The top entry goes from the stack to post. -/
theorem Ds.pop {wa w3 : World} {g d c : Nat} {v : Value} (h : Ds w0 w E B n m f (stk ++ [(b, x)]) pst) (hb4 : B 4 = bx 156 (.slice (some ⟨E 9, 0, none⟩) (stk.length + 1) c)) (h9 : B 9 = gl 158 2 (stk.length + 1) c (qs (stk ++ [(b, x)]))) (hc : stk.length + 1 ≤ c ∧ c ≤ maxLen) (hb3 : B 3 = bx 46 v)
    (hap : Appd w0 wa 14 E B 8 3 1 pst.length (ql (pst ++ [b])) g d w3) :
    ∃ B', Kept E (upd E 8 g) B B' ∧ Ds w0 ((w3.setCell ⟨E 3, 0, none⟩ (.slice (some ⟨g, 0, none⟩) (pst.length + 1) d)).setCell ⟨E 4, 0, none⟩ (.slice (some ⟨E 9, 0, none⟩) stk.length c)) (upd E 8 g) B' n m f stk (pst ++ [b]) := by
  have s1 := box_set hap.1 3 (by omega) (t := 46) (v0 := v) (by show B 3 = _; exact hb3) (.slice (some ⟨g, 0, none⟩) (pst.length + 1) d)
  have s2 := box_set s1 4 (by omega) (t := 156) (v0 := .slice (some ⟨E 9, 0, none⟩) (stk.length + 1) c) (by show B 4 = _; exact hb4) (.slice (some ⟨E 9, 0, none⟩) stk.length c)
  have s3 := s2.wkn 9 (gl 158 2 stk.length c (qs stk)) (by show 158 = (B 9).t; rw [h9]; rfl) (by show c * 2 = (B 9).n; rw [h9]; rfl) (fun i u _ hu hi => by
    have hu' : (B 9).p i u := hu
    rw [h9] at hu'
    obtain ⟨z, h1, h2⟩ := hu' (by omega)
    rw [List.getElem?_append_left (by omega)] at h1
    exact ⟨z, h1, h2⟩)
  have hcap := hap.2.1.caps (by omega)
  refine ⟨_, ⟨fun k h6 h7 h8 h9 => upd_other _ _ h8, fun k hk => ?_⟩, s3, h.b0, h.b5, h.b1, h.b2, ⟨_, d, rfl, ?_⟩, ⟨_, c, rfl, .inr ⟨rfl, rfl, by omega, hc.2⟩⟩, h.fr, h.cnt, fun z hz => h.sv z (List.mem_append_left _ hz), ?_, ?_⟩
  · rw [upd_other _ _ (by omega), upd_other _ _ (by omega), upd_other _ _ (by omega), upd_other _ _ (by omega)]
  · rw [List.length_append]
    exact .inr ⟨rfl, rfl, hcap.1, hcap.2⟩
  · intro z hz
    rcases List.mem_append.1 hz with h1 | h1
    · exact h.pv z h1
    · have : z = b := by simpa using h1
      subst this
      exact h.sv (z, x) (by simp)
  · have hnd := h.nd
    have e : List.map (fun z : Nat × Nat => z.1) (stk ++ [(b, x)]) ++ pst = stk.map (·.1) ++ (b :: pst) := by simp
    rw [e] at hnd
    rw [← List.append_assoc]
    exact (List.perm_append_comm (l₁ := List.map (fun z : Nat × Nat => z.1) stk ++ pst) (l₂ := [b])).nodup_iff.2 ((List.perm_middle (a := b) (l₁ := List.map (fun z : Nat × Nat => z.1) stk) (l₂ := pst)).nodup_iff.1 hnd)
end
end Go.Proofs.YbulkexmzaGreat
