/-
  'xs = append(xs, x)', xs a slice of the call's own: what it leaves, in labels; and what was in the old array stays there.
-/
import Derived.Test.YbulkexmymOwn
namespace Go.Proofs.Ybulkexmym
open Go.RowKit

/-- A label for all blocks from h on. -/
def upf (L : Nat → Nat × Nat) (h : Nat) (l : Nat × Nat) : Nat → Nat × Nat := fun k => if k < h then L k else l
theorem Agree.upf (w : World) (L : Nat → Nat × Nat) (l : Nat × Nat) {h : Nat} (hh : w.heap.size ≤ h) : Agree w L (upf L h l) := fun k hk => by
  unfold Ybulkexmym.upf; rw [if_pos (by omega)]

section
variable {P : Program} {w : World} {L : Nat → Nat × Nat} {l : Nat × Nat} {B : Nat} {e : TypeId} {v : Value} {xs : List Value}

theorem append_keep {ops : Array Oper} {rest : List Oper} {o : Oper} {a : Act} {Q : Exit → Act → World → Prop} (hgd : o.guard = none) (s x : Operand) (t : TypeId)
    (ho : o.op = .call { callee := .builtin .append, args := #[s, x], argTypes := #[t, t] })
    (L : Nat → Nat × Nat) (l : Nat × Nat) (B : Nat) (e : TypeId) (i : TypeInfo) (z : Value) (bytes : Nat) (ht : P.underlying t = some (.slice e)) (hi : P.info? e = some i) (hz : i.zero = some z)
    (hsize : i.size = 1) (hby : i.bytes = bytes) (hzs : z.cells.size = 1)
    (v : Value) (xs : List Value) (hs : a.eval s = v) (hr : Row w L l B e v xs)
    (ad : Addr) (x0 : Value) (hx : a.eval x = .slice (some ad) 1 1) (hnew : w.cell? ad = some x0) (h1 : x0.oneCell' = true)
    (hlen : xs.length ≤ 100000) (hbytes : bytes ≤ 100) (hbase : B ≤ w.heap.size)
    (h : ∀ g cap w', Row w' (upf L w.heap.size l) l B e (.slice (some ⟨g, 0, none⟩) (xs.length + 1) cap) (xs ++ [x0]) → Keep L (fun k => k = l) w w' →
      (∀ g0, v.ownBlock = some g0 → ∀ j u, xs[j]? = some u → w'.cell? ⟨g0, j, none⟩ = some u) → wpList P ops Q rest (a.put o.dst (.slice (some ⟨g, 0, none⟩) (xs.length + 1) cap)) w') :
    wpList P ops Q (o :: rest) a w := by
  have hb2 : (xs.length + 1) * bytes ≤ 140737488355328 := by
    calc (xs.length + 1) * bytes ≤ 100001 * 100 := Nat.mul_le_mul (by omega) hbytes
      _ ≤ 140737488355328 := by decide
  have hnews : ∀ j u, [x0][j]? = some u → w.cell? (ad.add j) = some u := by
    intro j u hj
    match j, hj with
    | 0, hj =>
      simp at hj; subst hj
      obtain ⟨b, off, sp⟩ := ad
      have hsp := World.cell?_spot hnew
      simp only at hsp
      subst hsp
      simpa [Addr.add] using hnew
  have h1' : ∀ u ∈ [x0], u.oneCell' = true := by simpa using h1
  -- where the old row did not move, or a new one was made
  have grows : ∀ (ao : Option Addr) (cap : Nat), v = .slice ao xs.length cap → (ao = none → xs.length = 0 ∧ cap = 0) → (∀ b, ao = some b → ∀ j u, xs[j]? = some u → w.cell? (b.add j) = some u) → cap < xs.length + 1 → wpList P ops Q (o :: rest) a w := by
    intro ao cap hv hnone holds hfull
    refine wpList_append_grows w hgd s x t ho e i z 1 bytes ht hi hz hsize hby hzs (by omega) ao xs.length cap xs (hs.trans hv) hnone (by simp) holds ad 1 1 [x0] hx rfl hnews h1' hfull (by unfold maxLen; omega) hb2 ?_
    intro v' w' hown hg
    obtain ⟨g, cap', rfl, hge, hlt⟩ := hown.form (by omega)
    refine h g cap' w' ⟨?_, ?_⟩ ?_ ?_
    · rw [show (xs ++ [x0]).length = xs.length + 1 by simp]
      obtain ⟨q1, q2⟩ := hown
      refine ⟨q1, ?_⟩
      rcases q2 with ⟨q3, _⟩ | ⟨g', c', cur, q3, q4, q5⟩
      · simp at q3
      · exact .inr ⟨g', c', cur, q3, by omega, q5⟩
    · intro g' hg'
      simp only [Value.ownBlock, Option.some.injEq] at hg'
      subst hg'
      unfold upf; rw [if_neg (by omega)]
    · exact (Keep.refl L _ w).grown hg (fun k hk => by cases hk)
    · intro g0 hg0 j u hu
      subst hv
      cases ao with
      | none => simp [Value.ownBlock] at hg0
      | some b =>
        have hc := holds b rfl j u hu
        simp only [Value.ownBlock, Option.some.injEq] at hg0
        subst hg0
        rcases hr.form with ⟨q, _⟩ | ⟨g', c', q, _⟩
        · simp at q
        · simp at q
          obtain ⟨rfl, _⟩ := q
          rw [Go.WideShapes.add_plain] at hc
          simp at hc
          exact hg.cell hc (by simp)
  rcases hr.form with ⟨rfl, rfl⟩ | ⟨g0, cap, rfl, hcap, hB, hlt, hl⟩
  · exact grows none 0 rfl (fun _ => ⟨rfl, rfl⟩) (fun _ hb => by cases hb) (by simp)
  · by_cases hroom : xs.length + 1 ≤ cap
    · refine wpList_append_fits w hgd s x t ho B e i 1 ht hi hsize g0 xs.length cap xs hs hr.own ad 1 1 [x0] hx rfl hnews h1' hroom ?_
      intro w' hown hg
      refine h g0 cap w' ⟨by simpa using hown, ?_⟩ ((Keep.refl L _ w).grown hg (fun k hk => by simp at hk; subst hk; exact hl)) ?_
      · intro g' hg'
        simp only [Value.ownBlock, Option.some.injEq] at hg'
        subst hg'
        unfold upf; rw [if_pos hlt]; exact hl
      · intro g' hg' j u hu
        simp only [Value.ownBlock, Option.some.injEq] at hg'
        subst hg'
        have hj : j < xs.length := by
          rcases Nat.lt_or_ge j xs.length with q | q
          · exact q
          · rw [List.getElem?_eq_none q] at hu; cases hu
        have := hown.cells rfl j u (by rw [List.getElem?_append_left hj]; exact hu)
        simpa [Go.WideShapes.add_plain] using this
    · refine grows (some ⟨g0, 0, none⟩) cap rfl (fun hb => by cases hb) ?_ (by omega)
      intro b hb j u hu
      cases hb
      exact hr.own.cells rfl j u hu
end
end Go.Proofs.Ybulkexmym
