/-
  DRAWN REGIONS INSIDE A ROUND of a range over a function: where all but a forced tail only read.
-/
import Derived.Test.YbulkexmzaGreatEw0
namespace Go.Proofs.YbulkexmzaGreat
open Go.RowKit Go.Shelf

section
variable {P : Program} {ops : Array Oper} {w : World} {md : Region.Mode} {l n : Nat} {Q : Exit → Act → World → Prop}

theorem opIn_of_still (hd : ∀ (i : Nat) (o : Oper), ops[i]? = some o → ∀ c, o.op ≠ .defer c) {i : Nat} {a : Act} {K : Act → Prop} {K' : Act → World → Prop} (h : ∀ a, K a → K' a w) (hh : stOp P ops w i K a) :
    wpOpIn (Fence.wide.inRound l) n P ops Q i K' a w := by
  unfold stOp at hh
  unfold wpOpIn
  split
  · rename_i ho; simp only [ho] at hh; exact h _ hh
  · rename_i o ho
    simp only [ho] at hh
    split
    · rename_i hw
      simp only [hw, if_true] at hh
      unfold Oper.still at hh
      refine ⟨fun _ _ => trivial, ?_⟩
      rw [Oper.semAt_eq _ _ _ (hd i o ho)]
      generalize (execOp a.eval o).run P w = r at *
      cases r with
      | ok x w' =>
        cases x <;> simp only [Oper.stillUpon] at hh <;> simp only [Oper.uponIn]
        case enter f args =>
          obtain ⟨rfl, v, hc, hn⟩ := hh
          exact ⟨(fun h => by cases h), CallsIn.inRound l ((callsIn_wide.2 hc).mono fun e w'' hx => by
            obtain ⟨he, hw''⟩ := hx
            subst he; subst hw''
            exact h _ hn)⟩
        all_goals (obtain ⟨rfl, h2⟩ := hh; exact h _ h2)
      | halt x w' => simp only [Oper.stillUpon] at hh
    · rename_i hw
      simp only [hw] at hh
      exact ⟨fun _ _ => trivial, h _ hh⟩

theorem anyIn_of_still (hd : ∀ (i : Nat) (o : Oper), ops[i]? = some o → ∀ c, o.op ≠ .defer c) {R : Act → Prop} (hQ : ∀ a, R a → Q .normal a w) : ∀ (fuel : Nat) (listed : Array Bool) (a : Act),
    wpAnyS P md ops w R fuel listed a → wpAnyIn (Fence.wide.inRound l) n P md ops Q fuel listed a w
  | 0, _, _, h => ⟨h.1, hQ _ h.2⟩
  | fuel + 1, _, _, h => ⟨fun h0 => hQ _ (h.1 h0), fun i hi => opIn_of_still hd (fun a' => anyIn_of_still hd hQ fuel _ a') (h.2 i hi)⟩

theorem anyIn_of_head (hd : ∀ (i : Nat) (o : Oper), ops[i]? = some o → ∀ c, o.op ≠ .defer c) {k g : Nat} {L : Array Bool → Act → Prop} (hL : ∀ listed a, L listed a → wpAnyIn (Fence.wide.inRound l) n P md ops Q g listed a w) :
    ∀ (f : Nat) (listed : Array Bool) (a : Act), wpAnyL P md ops w k L f listed a → wpAnyIn (Fence.wide.inRound l) n P md ops Q (f + g) listed a w
  | 0, listed, a, h => by rw [Nat.zero_add]; exact hL _ _ h
  | f + 1, listed, a, h => by
    rw [show f + 1 + g = (f + g) + 1 by omega]
    exact ⟨fun h0 => absurd h0 h.1, fun i hi => opIn_of_still hd (fun a' h' => anyIn_of_head hd hL f _ a' h') (h.2 i hi).2⟩

theorem anyIn_of_seq : ∀ (t : List Oper) (k : Nat) (listed : Array Bool) (a : Act) (w : World), (∀ j, t[j]? = ops[k + j]?) →
    Region.seqB md ops t.length k listed = true → wpListIn (Fence.wide.inRound l) n P ops Q t a w → wpAnyIn (Fence.wide.inRound l) n P md ops Q t.length listed a w
  | [], _, _, _, _, _, hB, h => ⟨by simpa [Region.seqB] using hB, h⟩
  | o :: t, k, listed, a, w, ht, hB, h => by
    have h0 : ops[k]? = some o := by simpa using (ht 0).symm
    simp only [List.length_cons, Region.seqB, Bool.and_eq_true, decide_eq_true_eq] at hB
    refine ⟨fun h1 => (by rw [hB.1] at h1; cases h1), fun i hi => ?_⟩
    rw [hB.1] at hi
    obtain rfl : i = k := by simpa using hi
    have hw : wpOpIn (Fence.wide.inRound l) n P ops Q i (wpListIn (Fence.wide.inRound l) n P ops Q t) a w := by unfold wpOpIn; simp only [h0]; exact h
    exact wpOpIn_mono (fun a' w' h' => anyIn_of_seq t (i + 1) _ a' w' (fun j => by have := ht (j + 1); simpa [Nat.add_assoc, Nat.add_comm 1 j] using this) hB.2 h') hw
end

def noDefer (l : List Oper) : Bool := l.all fun o => match o.op with
  | .defer _ => false
  | _ => true
theorem noDefer_spec {t : List Oper} (h : noDefer t = true) : ∀ (i : Nat) (o : Oper), t.toArray[i]? = some o → ∀ c, o.op ≠ .defer c := by
  intro i o ho c e
  have hm : o ∈ t := List.mem_of_getElem? (by simpa using ho)
  have := List.all_eq_true.1 h o hm
  rw [e] at this
  cases this

/-- All only read. -/
theorem round_still {P : Program} {id l n : Nat} {Q : Exit → Act → World → Prop} {a : Act} {w : World} {t : List Oper} (hm : P.follows .mixedOrders = true) (hB : Region.lexB .any t.toArray = true) (hd : noDefer t = true)
    (h : wpStill P t.toArray w.drew (fun a' => Q .normal a' w.drew) t a) : (Code.region id t.toArray true).wpIn (Fence.wide.inRound l) n P Q a w := by
  simp only [Region.lexB, Bool.and_eq_true] at hB
  refine wpIn_region_any hm (anyIn_of_still (noDefer_spec hd) (R := fun a' => Q .normal a' w.drew) (fun _ h => h) _ _ _ ?_)
  have := wpAnyS_lex (md := .any) hB.1 t 0 (Array.replicate t.toArray.size false) a (by simp) (by simpa using hB.2) h
  simpa using this

/-- The first k only read, the others follow in the text's order. -/
theorem round_tail {P : Program} {id l n : Nat} {Q : Exit → Act → World → Prop} {a : Act} {w : World} {t : List Oper} (k : Nat) (hm : P.follows .mixedOrders = true) (hB : Region.lexTailB .any t.toArray k = true) (hd : noDefer t = true)
    (h : wpStill P t.toArray w.drew (fun a' => wpListIn (Fence.wide.inRound l) n P t.toArray Q (t.drop k) a' w.drew) (t.take k) a) : (Code.region id t.toArray true).wpIn (Fence.wide.inRound l) n P Q a w := by
  simp only [Region.lexTailB, Bool.and_eq_true, decide_eq_true_eq] at hB
  obtain ⟨⟨⟨⟨hsel, hk⟩, hs⟩, hc⟩, hlex⟩ := hB
  have hk' : k < t.length := by simpa using hk
  have htl : (t.take k).length = k := by simp; omega
  have hdl : (t.drop k).length = t.toArray.size - k := by simp
  have inv0 : HeadInv .any t.toArray k (Array.replicate t.toArray.size false) :=
    ⟨by simp, fun j oj _ hl => (by rw [getD_replicate_false] at hl; cases hl), fun i _ hi => getD_in (by simpa using hi) (getD_replicate_false _ _)⟩
  have H := wpAnyL_lex (md := .any) (g := t.toArray.size - k) hsel hs hc hk (t.take k) 0 _ a (fun j hj => by
    have hj' : j < k := by rw [htl] at hj; exact hj
    simp [hj']) (by simpa using htl) inv0 (by rw [htl]; exact hlex) h
  refine wpIn_region_any hm ?_
  have := anyIn_of_head (l := l) (n := n) (Q := Q) (noDefer_spec hd) (g := t.toArray.size - k) (fun listed a' hL => by
    have := anyIn_of_seq (md := .any) (l := l) (n := n) (Q := Q) (t.drop k) k listed a' w.drew (fun j => by simp [List.getElem?_drop]) (by rw [hdl]; exact hL.1) hL.2
    rwa [hdl] at this) _ _ _ H
  rw [htl, show k + (t.toArray.size - k) = t.toArray.size by omega] at this
  exact this
end Go.Proofs.YbulkexmzaGreat
