/-
  A REGION THAT DRAWS ITS ORDER, WITH GUARDS; and inside a round.
-/
import Derived.Test.YbulkexmzaGreatOb
namespace Go.Proofs.YbulkexmzaGreat
open Go.RowKit Go.Shelf

/-- Guards or none; each slot written once, within the frame; what an operation waits for lies ahead of it. -/
def envG (N : Nat) : List Oper → Nat → List Nat → Bool
  | [], _, _ => true
  | o :: r, k, ds => (true && o.after.toList.all (fun e => !Region.binds .any e || Nat.blt e.on k)) && match o.dst with
    | some d => Nat.blt d N && (!ds.contains d) && envG N r (k + 1) (d :: ds)
    | none => envG N r (k + 1) ds

section
variable {γ : Type} {t : List Oper} {V : Nat → γ → Value} {a0 a : Act} {l : Nat → Bool} {g g' : γ}
theorem envG_at (N : Nat) : ∀ (t : List Oper) (k : Nat) (ds : List Nat), envG N t k ds = true → ∀ i o, t[i]? = some o →
    True ∧ (∀ e ∈ o.after.toList, Region.binds .any e = true → e.on < k + i) ∧ ∀ d, o.dst = some d → d < N ∧ ¬ d ∈ ds ∧ wrF t k d = some (k + i)
  | [], _, _, _, i, o, h => by simp at h
  | o' :: r, k, ds, hB, i, o, hi => by
    simp only [envG, Bool.and_eq_true] at hB
    obtain ⟨⟨h1, h2⟩, h3⟩ := hB
    match i, hi with
    | 0, hi =>
      simp only [List.getElem?_cons_zero, Option.some.injEq] at hi
      subst hi
      refine ⟨trivial, fun e he hb => ?_, fun d hd => ?_⟩
      · have := List.all_eq_true.1 h2 e he
        simp [hb] at this
        simpa using this
      · rw [hd] at h3
        simp only [Bool.and_eq_true] at h3
        exact ⟨by simpa using h3.1.1, by simpa using h3.1.2, by simp [wrF, hd]⟩
    | i + 1, hi =>
      simp only [List.getElem?_cons_succ] at hi
      have hr : ∃ ds', envG N r (k + 1) ds' = true ∧ (∀ x ∈ ds, x ∈ ds') ∧ ∀ d, o'.dst = some d → d ∈ ds' := by
        split at h3
        · rename_i d hd
          simp only [Bool.and_eq_true] at h3
          exact ⟨_, h3.2, fun x hx => List.mem_cons_of_mem _ hx, fun d' hd' => by rw [hd] at hd'; cases hd'; exact List.mem_cons_self⟩
        · rename_i hd
          exact ⟨_, h3, fun x hx => hx, fun d' hd' => by rw [hd] at hd'; cases hd'⟩
      obtain ⟨ds', hr1, hr2, hr3⟩ := hr
      obtain ⟨q1, q2, q3⟩ := envG_at N r (k + 1) ds' hr1 i o hi
      refine ⟨q1, fun e he hb => by have := q2 e he hb; omega, fun d hd => ?_⟩
      obtain ⟨p1, p2, p3⟩ := q3 d hd
      refine ⟨p1, fun hx => p2 (hr2 d hx), ?_⟩
      simp only [wrF]
      rw [show k + (i + 1) = k + 1 + i by omega]
      split
      · rename_i d' hd'
        have hne : ¬ d' = d := fun e => p2 (e ▸ hr3 d' hd')
        simp only [beq_iff_eq, hne, if_false]
        exact p3
      · exact p3

/-- One more operation is done. -/
theorem Good.putG (h : Good t V a0 l g a) {N : Nat} (hN : a0.tmps.size = N) (hB : envG N t 0 [] = true) {i : Nat} {o : Oper} (hi : t[i]? = some o) (hk : ∀ j, l j = true → V j g' = V j g) : Good t V a0 (upd l i true) g' (a.put o.dst (V i g')) := by
  obtain ⟨_, _, q3⟩ := envG_at N t 0 [] hB i o hi
  refine ⟨?_, ?_, fun s => ?_⟩
  · cases hd : o.dst <;> simp only [Act.put] <;> exact h.df
  · cases hd : o.dst <;> simp only [Act.put, Array.size_setIfInBounds] <;> exact h.sz
  · have other : ∀ j, wrF t 0 s = some j → j ≠ i → (if upd l i true j = true then V j g' else a0.tmps.getD s undef) = if l j = true then V j g else a0.tmps.getD s undef := fun j hj hne => by
      rw [upd_other _ _ hne]
      by_cases e : l j = true
      · simp only [e, if_true]; exact hk j e
      · simp only [e, if_false, Bool.false_eq_true]
    have hv := h.val s
    cases hd : o.dst with
    | none =>
      simp only [Act.put]
      rw [hv]
      cases hj : wrF t 0 s with
      | none => rfl
      | some j =>
        simp only
        rw [other j hj]
        rintro rfl
        obtain ⟨o', h1, h2, _⟩ := wrF_some t 0 s j hj
        rw [Nat.sub_zero, hi] at h1
        cases h1
        rw [hd] at h2; cases h2
    | some d =>
      obtain ⟨p1, _, p3⟩ := q3 d hd
      rw [Nat.zero_add] at p3
      simp only [Act.put]
      rw [getD_set _ _ _ _ (by rw [h.sz, hN]; exact p1)]
      by_cases e : s = d
      · subst e
        simp only [if_true, p3, upd_same]
      · simp only [e, if_false]
        rw [hv]
        cases hj : wrF t 0 s with
        | none => rfl
        | some j =>
          simp only
          rw [other j hj]
          rintro rfl
          obtain ⟨o', h1, h2, _⟩ := wrF_some t 0 s j hj
          rw [Nat.sub_zero, hi] at h1
          cases h1
          rw [hd] at h2; cases h2
          exact e rfl

/-- What is to be shown of each operation. -/
def StepsG (P : Program) (Q : Exit → Act → World → Prop) (t : List Oper) (V : Nat → γ → Value) (M : (Nat → Bool) → γ → World → Prop) (a0 : Act) : Nat → List Oper → Prop
  | _, [] => True
  | i, o :: r => (∀ (l : Nat → Bool) (g : γ) (a : Act) (w : World) (K : Act → World → Prop), Pre o l → Closed t l → l i = false → Good t V a0 l g a → M l g w →
      (∀ g' w', (∀ j, l j = true → V j g' = V j g) → M (upd l i true) g' w' → K (a.put o.dst (V i g')) w') → if Region.wanted o (yielded t.toArray a.tmps) = true then o.wp P a w K Q else K (a.put o.dst undef) w) ∧ StepsG P Q t V M a0 (i + 1) r

theorem StepsG.at {P : Program} {Q : Exit → Act → World → Prop} {M : (Nat → Bool) → γ → World → Prop} : ∀ (r : List Oper) (k : Nat), StepsG P Q t V M a0 k r → ∀ i o, r[i]? = some o →
    (∀ (l : Nat → Bool) (g : γ) (a : Act) (w : World) (K : Act → World → Prop), Pre o l → Closed t l → l (k + i) = false → Good t V a0 l g a → M l g w →
      (∀ g' w', (∀ j, l j = true → V j g' = V j g) → M (upd l (k + i) true) g' w' → K (a.put o.dst (V (k + i) g')) w') → if Region.wanted o (yielded t.toArray a.tmps) = true then o.wp P a w K Q else K (a.put o.dst undef) w)
  | [], _, _, i, o, h => by simp at h
  | o' :: r, k, hs, 0, o, h => by
    simp only [List.getElem?_cons_zero, Option.some.injEq] at h
    subst h
    exact hs.1
  | o' :: r, k, hs, i + 1, o, h => by
    simp only [List.getElem?_cons_succ] at h
    have := StepsG.at r (k + 1) hs.2 i o h
    rw [show k + 1 + i = k + (i + 1) by omega] at this
    exact this

theorem any_envG {P : Program} {Q : Exit → Act → World → Prop} {M : (Nat → Bool) → γ → World → Prop} {N : Nat} (hN : a0.tmps.size = N) (hB : envG N t 0 [] = true) (hS : StepsG P Q t V M a0 0 t)
    (hd : ∀ l g a w, (∀ i, i < t.length → l i = true) → Good t V a0 l g a → M l g w → Q .normal a w) :
    ∀ (fuel : Nat) (listed : Array Bool) (g : γ) (a : Act) (w : World), listed.size = t.length → cntB (fun i => listed.getD i false) t.length ≤ fuel → Closed t (fun i => listed.getD i false) → Good t V a0 (fun i => listed.getD i false) g a → M (fun i => listed.getD i false) g w →
      wpAny P .any t.toArray Q fuel listed a w := by
  have hready : ∀ (listed : Array Bool), listed.size = t.length → ∀ i, i ∈ Region.ready .any t.toArray listed ↔ i < t.length ∧ listed.getD i false = false ∧ ∃ o, t[i]? = some o ∧ Pre o (fun i => listed.getD i false) := by
    intro listed hls i
    have hgd : ∀ j, j < t.length → listed.getD j true = listed.getD j false := fun j hj => by
      simp [Array.getD, show j < listed.size by omega]
    simp only [Region.ready, List.mem_filter, List.mem_range, List.size_toArray, Bool.and_eq_true]
    constructor
    · rintro ⟨h1, h2, h3⟩
      rw [hgd i h1] at h2
      have ho : t.toArray[i]? = some t[i] := by simp [h1]
      rw [ho] at h3
      simp only [Option.map_some, Option.getD_some] at h3
      refine ⟨h1, by simpa using h2, t[i], by simp [h1], fun e he hb => ?_⟩
      have := Array.all_eq_true'.1 h3 e (by simpa using he)
      simpa [hb] using this
    · rintro ⟨h1, h2, o, ho, hp⟩
      refine ⟨h1, ?_, ?_⟩
      · rw [hgd i h1, h2]; rfl
      · have ho' : t.toArray[i]? = some o := by simpa using ho
        rw [ho']
        simp only [Option.map_some, Option.getD_some]
        refine Array.all_eq_true'.2 fun e he => ?_
        cases hb : Region.binds .any e
        · simp
        · simp [hp e (by simpa using he) hb]
  intro fuel
  induction fuel with
  | zero =>
    intro listed g a w hls hc hcl hG hM
    have hall := cntB_zero (l := fun i => listed.getD i false) (n := t.length) (by omega)
    refine ⟨?_, hd _ g a w hall hG hM⟩
    apply List.eq_nil_iff_forall_not_mem.2
    intro i hi
    obtain ⟨h1, h2, _⟩ := (hready listed hls i).1 hi
    have := hall i h1
    rw [h2] at this; cases this
  | succ fuel ih =>
    intro listed g a w hls hc hcl hG hM
    refine ⟨fun h0 => ?_, fun i hi => ?_⟩
    · by_cases hz : 0 < cntB (fun i => listed.getD i false) t.length
      · obtain ⟨i, h1, h2, h3⟩ := cntB_pos hz
        have ho : t[i]? = some t[i] := by simp [h1]
        obtain ⟨_, q2, _⟩ := envG_at N t 0 [] hB i _ ho
        have : i ∈ Region.ready .any t.toArray listed := (hready listed hls i).2 ⟨h1, h2, _, ho, fun e he hb => h3 _ (by have := q2 e he hb; omega)⟩
        rw [h0] at this
        simp at this
      · exact hd _ g a w (cntB_zero (by omega)) hG hM
    · obtain ⟨h1, h2, o, ho, hp⟩ := (hready listed hls i).1 hi
      obtain ⟨q1, _, _⟩ := envG_at N t 0 [] hB i o ho
      have eu : (fun k => (listed.setIfInBounds i true).getD k false) = upd (fun k => listed.getD k false) i true := by
        funext k
        by_cases e : k = i
        · subst e; rw [upd_same, Array.getD_eq_getD_getElem?, Array.getElem?_setIfInBounds_self_of_lt (by omega)]; rfl
        · rw [upd_other _ _ e, Array.getD_eq_getD_getElem?, Array.getD_eq_getD_getElem?, Array.getElem?_setIfInBounds_ne (Ne.symm e)]
      unfold wpOp
      have ho' : t.toArray[i]? = some o := by simpa using ho
      simp only [ho']
      have hst := StepsG.at t 0 hS i o ho (fun k => listed.getD k false) g a w (wpAny P .any t.toArray Q fuel (listed.setIfInBounds i true)) hp hcl (by rw [Nat.zero_add]; exact h2) hG hM
      rw [Nat.zero_add] at hst
      have hall : ∀ g' w', (∀ j, listed.getD j false = true → V j g' = V j g) → M (upd (fun k => listed.getD k false) i true) g' w' → wpAny P .any t.toArray Q fuel (listed.setIfInBounds i true) (a.put o.dst (V i g')) w' := ?hall
      case hall =>
       intro g' w' hk hM'
       refine ih _ g' _ w' (by simp [hls]) ?_ ?_ ?_ ?_
       · rw [eu]
         have := cntB_upd (fun k => listed.getD k false) h1 h2
         omega
       · rw [eu]
         intro j oj hj hl e he hb
         by_cases e1 : e.on = i
         · rw [e1, upd_same]
         · rw [upd_other _ _ e1]
           by_cases e2 : j = i
           · subst e2
             rw [ho] at hj; cases hj
             exact hp e he hb
           · rw [upd_other _ _ e2] at hl
             exact hcl j oj hj hl e he hb
       · rw [eu]; exact hG.putG hN hB ho hk
       · rw [eu]; exact hM'
      have hst2 := hst hall
      split
      · rename_i hw; rw [if_pos hw] at hst2; exact .inl hst2
      · rename_i hw; rw [if_neg hw] at hst2; exact hst2

/-- .. inside a round. -/
def StepsI (ll nn : Nat) (P : Program) (Q : Exit → Act → World → Prop) (t : List Oper) (V : Nat → γ → Value) (M : (Nat → Bool) → γ → World → Prop) (a0 : Act) : Nat → List Oper → Prop
  | _, [] => True
  | i, o :: r => (∀ (l : Nat → Bool) (g : γ) (a : Act) (w : World) (K : Act → World → Prop), Pre o l → Closed t l → l i = false → Good t V a0 l g a → M l g w →
      (∀ g' w', (∀ j, l j = true → V j g' = V j g) → M (upd l i true) g' w' → K (a.put o.dst (V i g')) w') → if Region.wanted o (yielded t.toArray a.tmps) = true then o.wpIn (Fence.wide.inRound ll) nn P a w K Q else (∀ f, o.about P w a.eval = some f → (Fence.wide.inRound ll).fn f) ∧ K (a.put o.dst undef) w) ∧ StepsI ll nn P Q t V M a0 (i + 1) r

theorem StepsI.at {ll nn : Nat} {P : Program} {Q : Exit → Act → World → Prop} {M : (Nat → Bool) → γ → World → Prop} : ∀ (r : List Oper) (k : Nat), StepsI ll nn P Q t V M a0 k r → ∀ i o, r[i]? = some o →
    (∀ (l : Nat → Bool) (g : γ) (a : Act) (w : World) (K : Act → World → Prop), Pre o l → Closed t l → l (k + i) = false → Good t V a0 l g a → M l g w →
      (∀ g' w', (∀ j, l j = true → V j g' = V j g) → M (upd l (k + i) true) g' w' → K (a.put o.dst (V (k + i) g')) w') → if Region.wanted o (yielded t.toArray a.tmps) = true then o.wpIn (Fence.wide.inRound ll) nn P a w K Q else (∀ f, o.about P w a.eval = some f → (Fence.wide.inRound ll).fn f) ∧ K (a.put o.dst undef) w)
  | [], _, _, i, o, h => by simp at h
  | o' :: r, k, hs, 0, o, h => by
    simp only [List.getElem?_cons_zero, Option.some.injEq] at h
    subst h
    exact hs.1
  | o' :: r, k, hs, i + 1, o, h => by
    simp only [List.getElem?_cons_succ] at h
    have := StepsI.at r (k + 1) hs.2 i o h
    rw [show k + 1 + i = k + (i + 1) by omega] at this
    exact this

theorem any_envI {ll nn : Nat} {P : Program} {Q : Exit → Act → World → Prop} {M : (Nat → Bool) → γ → World → Prop} {N : Nat} (hN : a0.tmps.size = N) (hB : envG N t 0 [] = true) (hS : StepsI ll nn P Q t V M a0 0 t)
    (hd : ∀ l g a w, (∀ i, i < t.length → l i = true) → Good t V a0 l g a → M l g w → Q .normal a w) :
    ∀ (fuel : Nat) (listed : Array Bool) (g : γ) (a : Act) (w : World), listed.size = t.length → cntB (fun i => listed.getD i false) t.length ≤ fuel → Closed t (fun i => listed.getD i false) → Good t V a0 (fun i => listed.getD i false) g a → M (fun i => listed.getD i false) g w →
      wpAnyIn (Fence.wide.inRound ll) nn P .any t.toArray Q fuel listed a w := by
  have hready : ∀ (listed : Array Bool), listed.size = t.length → ∀ i, i ∈ Region.ready .any t.toArray listed ↔ i < t.length ∧ listed.getD i false = false ∧ ∃ o, t[i]? = some o ∧ Pre o (fun i => listed.getD i false) := by
    intro listed hls i
    have hgd : ∀ j, j < t.length → listed.getD j true = listed.getD j false := fun j hj => by
      simp [Array.getD, show j < listed.size by omega]
    simp only [Region.ready, List.mem_filter, List.mem_range, List.size_toArray, Bool.and_eq_true]
    constructor
    · rintro ⟨h1, h2, h3⟩
      rw [hgd i h1] at h2
      have ho : t.toArray[i]? = some t[i] := by simp [h1]
      rw [ho] at h3
      simp only [Option.map_some, Option.getD_some] at h3
      refine ⟨h1, by simpa using h2, t[i], by simp [h1], fun e he hb => ?_⟩
      have := Array.all_eq_true'.1 h3 e (by simpa using he)
      simpa [hb] using this
    · rintro ⟨h1, h2, o, ho, hp⟩
      refine ⟨h1, ?_, ?_⟩
      · rw [hgd i h1, h2]; rfl
      · have ho' : t.toArray[i]? = some o := by simpa using ho
        rw [ho']
        simp only [Option.map_some, Option.getD_some]
        refine Array.all_eq_true'.2 fun e he => ?_
        cases hb : Region.binds .any e
        · simp
        · simp [hp e (by simpa using he) hb]
  intro fuel
  induction fuel with
  | zero =>
    intro listed g a w hls hc hcl hG hM
    have hall := cntB_zero (l := fun i => listed.getD i false) (n := t.length) (by omega)
    refine ⟨?_, hd _ g a w hall hG hM⟩
    apply List.eq_nil_iff_forall_not_mem.2
    intro i hi
    obtain ⟨h1, h2, _⟩ := (hready listed hls i).1 hi
    have := hall i h1
    rw [h2] at this; cases this
  | succ fuel ih =>
    intro listed g a w hls hc hcl hG hM
    refine ⟨fun h0 => ?_, fun i hi => ?_⟩
    · by_cases hz : 0 < cntB (fun i => listed.getD i false) t.length
      · obtain ⟨i, h1, h2, h3⟩ := cntB_pos hz
        have ho : t[i]? = some t[i] := by simp [h1]
        obtain ⟨_, q2, _⟩ := envG_at N t 0 [] hB i _ ho
        have : i ∈ Region.ready .any t.toArray listed := (hready listed hls i).2 ⟨h1, h2, _, ho, fun e he hb => h3 _ (by have := q2 e he hb; omega)⟩
        rw [h0] at this
        simp at this
      · exact hd _ g a w (cntB_zero (by omega)) hG hM
    · obtain ⟨h1, h2, o, ho, hp⟩ := (hready listed hls i).1 hi
      obtain ⟨q1, _, _⟩ := envG_at N t 0 [] hB i o ho
      have eu : (fun k => (listed.setIfInBounds i true).getD k false) = upd (fun k => listed.getD k false) i true := by
        funext k
        by_cases e : k = i
        · subst e; rw [upd_same, Array.getD_eq_getD_getElem?, Array.getElem?_setIfInBounds_self_of_lt (by omega)]; rfl
        · rw [upd_other _ _ e, Array.getD_eq_getD_getElem?, Array.getD_eq_getD_getElem?, Array.getElem?_setIfInBounds_ne (Ne.symm e)]
      unfold wpOpIn
      have ho' : t.toArray[i]? = some o := by simpa using ho
      simp only [ho']
      have hst := StepsI.at t 0 hS i o ho (fun k => listed.getD k false) g a w (wpAnyIn (Fence.wide.inRound ll) nn P .any t.toArray Q fuel (listed.setIfInBounds i true)) hp hcl (by rw [Nat.zero_add]; exact h2) hG hM
      rw [Nat.zero_add] at hst
      have hall : ∀ g' w', (∀ j, listed.getD j false = true → V j g' = V j g) → M (upd (fun k => listed.getD k false) i true) g' w' → wpAnyIn (Fence.wide.inRound ll) nn P .any t.toArray Q fuel (listed.setIfInBounds i true) (a.put o.dst (V i g')) w' := ?hall
      case hall =>
       intro g' w' hk hM'
       refine ih _ g' _ w' (by simp [hls]) ?_ ?_ ?_ ?_
       · rw [eu]
         have := cntB_upd (fun k => listed.getD k false) h1 h2
         omega
       · rw [eu]
         intro j oj hj hl e he hb
         by_cases e1 : e.on = i
         · rw [e1, upd_same]
         · rw [upd_other _ _ e1]
           by_cases e2 : j = i
           · subst e2
             rw [ho] at hj; cases hj
             exact hp e he hb
           · rw [upd_other _ _ e2] at hl
             exact hcl j oj hj hl e he hb
       · rw [eu]; exact hG.putG hN hB ho hk
       · rw [eu]; exact hM'
      have hst2 := hst hall
      split
      · rename_i hw; rw [if_pos hw] at hst2; exact hst2
      · rename_i hw; rw [if_neg hw] at hst2; exact hst2

/-- THE LAW inside a round. -/
theorem region_envI {ll nn id : Nat} {P : Program} {Q : Exit → Act → World → Prop} {w : World} (V : Nat → γ → Value) (M : (Nat → Bool) → γ → World → Prop) (N : Nat) (g0 : γ) (hm : P.follows .mixedOrders = true) (hN : a0.tmps.size = N) (hB : envG N t 0 [] = true)
    (h0 : M (fun _ => false) g0 w.drew) (hS : StepsI ll nn P Q t V M a0 0 t)
    (hd : ∀ l g a w, (∀ i, i < t.length → l i = true) → Good t V a0 l g a → M l g w → Q .normal a w) : (Code.region id t.toArray true).wpIn (Fence.wide.inRound ll) nn P Q a0 w := by
  refine wpIn_region_any hm (any_envI hN hB hS hd _ _ g0 _ _ (by simp) ?_ ?_ ?_ ?_)
  · have : ∀ n (l : Nat → Bool), cntB l n ≤ n := fun n l => by
      induction n with
      | zero => exact Nat.le_refl _
      | succ n ih => simp only [cntB]; split <;> omega
    simpa using this _ _
  · intro i o _ hl
    have : (Array.replicate t.toArray.size false).getD i false = false := by simp [Array.getD]
    have hl' : (Array.replicate t.toArray.size false).getD i false = true := hl
    rw [this] at hl'; cases hl'
  · have e : (fun i => (Array.replicate t.toArray.size false).getD i false) = fun _ => false := by funext i; simp [Array.getD]
    rw [e]
    refine ⟨rfl, rfl, fun s => ?_⟩
    cases wrF t 0 s <;> simp
  · have e : (fun i => (Array.replicate t.toArray.size false).getD i false) = fun _ => false := by funext i; simp [Array.getD]
    rw [e]
    exact h0

/-- THE LAW, with guards. -/
theorem region_envG {id : Nat} {P : Program} {Q : Exit → Act → World → Prop} {w : World} (V : Nat → γ → Value) (M : (Nat → Bool) → γ → World → Prop) (N : Nat) (g0 : γ) (hm : P.follows .mixedOrders = true) (hN : a0.tmps.size = N) (hB : envG N t 0 [] = true)
    (h0 : M (fun _ => false) g0 w.drew) (hS : StepsG P Q t V M a0 0 t)
    (hd : ∀ l g a w, (∀ i, i < t.length → l i = true) → Good t V a0 l g a → M l g w → Q .normal a w) : (Code.region id t.toArray true).wp P Q a0 w := by
  refine wp_region_any hm (any_envG hN hB hS hd _ _ g0 _ _ (by simp) ?_ ?_ ?_ ?_)
  · have : ∀ n (l : Nat → Bool), cntB l n ≤ n := fun n l => by
      induction n with
      | zero => exact Nat.le_refl _
      | succ n ih => simp only [cntB]; split <;> omega
    simpa using this _ _
  · intro i o _ hl
    have : (Array.replicate t.toArray.size false).getD i false = false := by simp [Array.getD]
    have hl' : (Array.replicate t.toArray.size false).getD i false = true := hl
    rw [this] at hl'; cases hl'
  · have e : (fun i => (Array.replicate t.toArray.size false).getD i false) = fun _ => false := by funext i; simp [Array.getD]
    rw [e]
    refine ⟨rfl, rfl, fun s => ?_⟩
    cases wrF t 0 s <;> simp
  · have e : (fun i => (Array.replicate t.toArray.size false).getD i false) = fun _ => false := by funext i; simp [Array.getD]
    rw [e]
    exact h0

end
end Go.Proofs.YbulkexmzaGreat
