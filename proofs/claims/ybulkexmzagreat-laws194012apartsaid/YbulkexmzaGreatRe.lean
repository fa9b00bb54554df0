/-
  A REGION THAT DRAWS ITS ORDER, WHATEVER THE ORDER, BY AN INVARIANT: operation i yields V i g, g being what has been chosen on the way (where new blocks lie ..); M l g w is what is known of the memory when the operations of l are done.
-/
import Derived.Test.YbulkexmzaGreatVa
namespace Go.Proofs.YbulkexmzaGreat
open Go.RowKit

/-- Which operation writes slot s. -/
def wrF : List Oper → Nat → Nat → Option Nat
  | [], _, _ => none
  | o :: r, k, s => match o.dst with
    | some d => if d == s then some k else wrF r (k + 1) s
    | none => wrF r (k + 1) s

/-- No guards; each slot written once, within the frame; what an operation waits for lies ahead of it. -/
def envB (N : Nat) : List Oper → Nat → List Nat → Bool
  | [], _, _ => true
  | o :: r, k, ds => (o.guard.isNone && o.after.toList.all (fun e => !Region.binds .any e || Nat.blt e.on k)) && match o.dst with
    | some d => Nat.blt d N && (!ds.contains d) && envB N r (k + 1) (d :: ds)
    | none => envB N r (k + 1) ds

/-- What the operation waits for is done. -/
def Pre (o : Oper) (l : Nat → Bool) : Prop := ∀ e ∈ o.after.toList, Region.binds .any e = true → l e.on = true
def Closed (t : List Oper) (l : Nat → Bool) : Prop := ∀ i o, t[i]? = some o → l i = true → Pre o l

section
variable {γ : Type}
structure Good (t : List Oper) (V : Nat → γ → Value) (a0 : Act) (l : Nat → Bool) (g : γ) (a : Act) : Prop where
  df : a.defers = a0.defers
  sz : a.tmps.size = a0.tmps.size
  val : ∀ s, a.tmps.getD s undef = match wrF t 0 s with
    | some j => if l j = true then V j g else a0.tmps.getD s undef
    | none => a0.tmps.getD s undef

variable {t : List Oper} {V : Nat → γ → Value} {a0 a : Act} {l : Nat → Bool} {g g' : γ}
theorem Good.of (h : Good t V a0 l g a) (s j : Nat) (hw : wrF t 0 s = some j) (hl : l j = true) : a.eval (.tmp s) = V j g := by
  have := h.val s
  rw [hw] at this
  simp only [hl, if_true] at this
  exact this
theorem Good.old (h : Good t V a0 l g a) (s : Nat) (hw : wrF t 0 s = none) : a.eval (.tmp s) = a0.eval (.tmp s) := by
  have := h.val s
  rw [hw] at this
  exact this
theorem Good.early (h : Good t V a0 l g a) (s j : Nat) (hw : wrF t 0 s = some j) (hl : l j = false) : a.eval (.tmp s) = a0.eval (.tmp s) := by
  have := h.val s
  rw [hw] at this
  simp only [hl] at this
  exact this

theorem wrF_some : ∀ (t : List Oper) (k s j : Nat), wrF t k s = some j → ∃ o, t[j - k]? = some o ∧ o.dst = some s ∧ k ≤ j
  | [], _, _, _, h => by simp [wrF] at h
  | o :: r, k, s, j, h => by
    simp only [wrF] at h
    have rec' : wrF r (k + 1) s = some j → ∃ o', (o :: r)[j - k]? = some o' ∧ o'.dst = some s ∧ k ≤ j := fun h' => by
      obtain ⟨o', h1, h2, h3⟩ := wrF_some r (k + 1) s j h'
      refine ⟨o', ?_, h2, by omega⟩
      rw [show j - k = (j - (k + 1)) + 1 by omega, List.getElem?_cons_succ]
      exact h1
    split at h
    · rename_i d hd
      split at h
      · rename_i e
        have : d = s := by simpa using e
        subst this
        cases h
        exact ⟨o, by simp, hd, Nat.le_refl _⟩
      · exact rec' h
    · exact rec' h

theorem envB_at (N : Nat) : ∀ (t : List Oper) (k : Nat) (ds : List Nat), envB N t k ds = true → ∀ i o, t[i]? = some o →
    o.guard = none ∧ (∀ e ∈ o.after.toList, Region.binds .any e = true → e.on < k + i) ∧ ∀ d, o.dst = some d → d < N ∧ ¬ d ∈ ds ∧ wrF t k d = some (k + i)
  | [], _, _, _, i, o, h => by simp at h
  | o' :: r, k, ds, hB, i, o, hi => by
    simp only [envB, Bool.and_eq_true] at hB
    obtain ⟨⟨h1, h2⟩, h3⟩ := hB
    match i, hi with
    | 0, hi =>
      simp only [List.getElem?_cons_zero, Option.some.injEq] at hi
      subst hi
      refine ⟨by simpa using h1, fun e he hb => ?_, fun d hd => ?_⟩
      · have := List.all_eq_true.1 h2 e he
        simp [hb] at this
        simpa using this
      · rw [hd] at h3
        simp only [Bool.and_eq_true] at h3
        exact ⟨by simpa using h3.1.1, by simpa using h3.1.2, by simp [wrF, hd]⟩
    | i + 1, hi =>
      simp only [List.getElem?_cons_succ] at hi
      have hr : ∃ ds', envB N r (k + 1) ds' = true ∧ (∀ x ∈ ds, x ∈ ds') ∧ ∀ d, o'.dst = some d → d ∈ ds' := by
        split at h3
        · rename_i d hd
          simp only [Bool.and_eq_true] at h3
          exact ⟨_, h3.2, fun x hx => List.mem_cons_of_mem _ hx, fun d' hd' => by rw [hd] at hd'; cases hd'; exact List.mem_cons_self⟩
        · rename_i hd
          exact ⟨_, h3, fun x hx => hx, fun d' hd' => by rw [hd] at hd'; cases hd'⟩
      obtain ⟨ds', hr1, hr2, hr3⟩ := hr
      obtain ⟨q1, q2, q3⟩ := envB_at N r (k + 1) ds' hr1 i o hi
      refine ⟨q1, fun e he hb => by have := q2 e he hb; omega, fun d hd => ?_⟩
      obtain ⟨p1, p2, p3⟩ := q3 d hd
      refine ⟨p1, fun hx => p2 (hr2 d hx), ?_⟩
      simp only [wrF]
      rw [show k + (i + 1) = k + 1 + i by omega]
      split
      · rename_i d' hd'
        have hne : ¬ d' = d := fun e => p2 (e ▸ hr3 d' hd')
        simp only [beq_iff_eq, hne, if_false]
        exact p3
      · exact p3

theorem getD_set (A : Array Value) (d s : Nat) (v : Value) (hd : d < A.size) : (A.setIfInBounds d v).getD s undef = if s = d then v else A.getD s undef := by
  rw [Array.getD_eq_getD_getElem?, Array.getD_eq_getD_getElem?]
  by_cases e : s = d
  · subst e; rw [Array.getElem?_setIfInBounds_self_of_lt hd]; simp
  · rw [Array.getElem?_setIfInBounds_ne (Ne.symm e)]; simp [e]

/-- One more operation is done. -/
theorem Good.put (h : Good t V a0 l g a) {N : Nat} (hN : a0.tmps.size = N) (hB : envB N t 0 [] = true) {i : Nat} {o : Oper} (hi : t[i]? = some o) (hk : ∀ j, l j = true → V j g' = V j g) : Good t V a0 (upd l i true) g' (a.put o.dst (V i g')) := by
  obtain ⟨_, _, q3⟩ := envB_at N t 0 [] hB i o hi
  refine ⟨?_, ?_, fun s => ?_⟩
  · cases hd : o.dst <;> simp only [Act.put] <;> exact h.df
  · cases hd : o.dst <;> simp only [Act.put, Array.size_setIfInBounds] <;> exact h.sz
  · have other : ∀ j, wrF t 0 s = some j → j ≠ i → (if upd l i true j = true then V j g' else a0.tmps.getD s undef) = if l j = true then V j g else a0.tmps.getD s undef := fun j hj hne => by
      rw [upd_other _ _ hne]
      by_cases e : l j = true
      · simp only [e, if_true]; exact hk j e
      · simp only [e, if_false, Bool.false_eq_true]
    have hv := h.val s
    cases hd : o.dst with
    | none =>
      simp only [Act.put]
      rw [hv]
      cases hj : wrF t 0 s with
      | none => rfl
      | some j =>
        simp only
        rw [other j hj]
        rintro rfl
        obtain ⟨o', h1, h2, _⟩ := wrF_some t 0 s j hj
        rw [Nat.sub_zero, hi] at h1
        cases h1
        rw [hd] at h2; cases h2
    | some d =>
      obtain ⟨p1, _, p3⟩ := q3 d hd
      rw [Nat.zero_add] at p3
      simp only [Act.put]
      rw [getD_set _ _ _ _ (by rw [h.sz, hN]; exact p1)]
      by_cases e : s = d
      · subst e
        simp only [if_true, p3, upd_same]
      · simp only [e, if_false]
        rw [hv]
        cases hj : wrF t 0 s with
        | none => rfl
        | some j =>
          simp only
          rw [other j hj]
          rintro rfl
          obtain ⟨o', h1, h2, _⟩ := wrF_some t 0 s j hj
          rw [Nat.sub_zero, hi] at h1
          cases h1
          rw [hd] at h2; cases h2
          exact e rfl

def cntB (l : Nat → Bool) : Nat → Nat
  | 0 => 0
  | n + 1 => cntB l n + if l n then 0 else 1
theorem cntB_upd (l : Nat → Bool) {b n : Nat} (hb : b < n) (h : l b = false) : cntB (upd l b true) n + 1 = cntB l n := by
  have low : ∀ j, j ≤ b → cntB (upd l b true) j = cntB l j := fun j hj => by
    induction j with
    | zero => rfl
    | succ j ih => simp only [cntB]; rw [ih (by omega), upd_other _ _ (by omega)]
  induction n with
  | zero => omega
  | succ n ih =>
    simp only [cntB]
    by_cases e : b = n
    · subst e
      rw [low b (Nat.le_refl _), upd_same]
      simp [h]
    · rw [upd_other _ _ (by omega)]
      have := ih (by omega)
      omega
theorem cntB_zero {l : Nat → Bool} : ∀ {n : Nat}, cntB l n = 0 → ∀ i, i < n → l i = true
  | 0, _, _, h => absurd h (Nat.not_lt_zero _)
  | n + 1, h, i, hi => by
    simp only [cntB] at h
    by_cases e : i = n
    · subst e
      cases hl : l i
      · simp [hl] at h
      · rfl
    · exact cntB_zero (n := n) (by omega) i (by omega)
theorem cntB_pos {l : Nat → Bool} : ∀ {n : Nat}, 0 < cntB l n → ∃ i, i < n ∧ l i = false ∧ ∀ j, j < i → l j = true
  | 0, h => absurd h (Nat.lt_irrefl _)
  | n + 1, h => by
    by_cases e : 0 < cntB l n
    · obtain ⟨i, h1, h2⟩ := cntB_pos e
      exact ⟨i, by omega, h2⟩
    · simp only [cntB] at h
      have hz := cntB_zero (l := l) (n := n) (by omega)
      refine ⟨n, Nat.lt_succ_self _, ?_, hz⟩
      cases hl : l n
      · rfl
      · simp [hl] at h; omega

/-- What is to be shown of each operation. -/
def Steps (P : Program) (Q : Exit → Act → World → Prop) (t : List Oper) (V : Nat → γ → Value) (M : (Nat → Bool) → γ → World → Prop) (a0 : Act) : Nat → List Oper → Prop
  | _, [] => True
  | i, o :: r => (∀ (l : Nat → Bool) (g : γ) (a : Act) (w : World) (K : Act → World → Prop), Pre o l → Closed t l → l i = false → Good t V a0 l g a → M l g w →
      (∀ g' w', (∀ j, l j = true → V j g' = V j g) → M (upd l i true) g' w' → K (a.put o.dst (V i g')) w') → o.wp P a w K Q) ∧ Steps P Q t V M a0 (i + 1) r

theorem Steps.at {P : Program} {Q : Exit → Act → World → Prop} {M : (Nat → Bool) → γ → World → Prop} : ∀ (r : List Oper) (k : Nat), Steps P Q t V M a0 k r → ∀ i o, r[i]? = some o →
    (∀ (l : Nat → Bool) (g : γ) (a : Act) (w : World) (K : Act → World → Prop), Pre o l → Closed t l → l (k + i) = false → Good t V a0 l g a → M l g w →
      (∀ g' w', (∀ j, l j = true → V j g' = V j g) → M (upd l (k + i) true) g' w' → K (a.put o.dst (V (k + i) g')) w') → o.wp P a w K Q)
  | [], _, _, i, o, h => by simp at h
  | o' :: r, k, hs, 0, o, h => by
    simp only [List.getElem?_cons_zero, Option.some.injEq] at h
    subst h
    exact hs.1
  | o' :: r, k, hs, i + 1, o, h => by
    simp only [List.getElem?_cons_succ] at h
    have := Steps.at r (k + 1) hs.2 i o h
    rw [show k + 1 + i = k + (i + 1) by omega] at this
    exact this

theorem any_env {P : Program} {Q : Exit → Act → World → Prop} {M : (Nat → Bool) → γ → World → Prop} {N : Nat} (hN : a0.tmps.size = N) (hB : envB N t 0 [] = true) (hS : Steps P Q t V M a0 0 t)
    (hd : ∀ l g a w, (∀ i, i < t.length → l i = true) → Good t V a0 l g a → M l g w → Q .normal a w) :
    ∀ (fuel : Nat) (listed : Array Bool) (g : γ) (a : Act) (w : World), listed.size = t.length → cntB (fun i => listed.getD i false) t.length ≤ fuel → Closed t (fun i => listed.getD i false) → Good t V a0 (fun i => listed.getD i false) g a → M (fun i => listed.getD i false) g w →
      wpAny P .any t.toArray Q fuel listed a w := by
  have hready : ∀ (listed : Array Bool), listed.size = t.length → ∀ i, i ∈ Region.ready .any t.toArray listed ↔ i < t.length ∧ listed.getD i false = false ∧ ∃ o, t[i]? = some o ∧ Pre o (fun i => listed.getD i false) := by
    intro listed hls i
    have hgd : ∀ j, j < t.length → listed.getD j true = listed.getD j false := fun j hj => by
      simp [Array.getD, show j < listed.size by omega]
    simp only [Region.ready, List.mem_filter, List.mem_range, List.size_toArray, Bool.and_eq_true]
    constructor
    · rintro ⟨h1, h2, h3⟩
      rw [hgd i h1] at h2
      have ho : t.toArray[i]? = some t[i] := by simp [h1]
      rw [ho] at h3
      simp only [Option.map_some, Option.getD_some] at h3
      refine ⟨h1, by simpa using h2, t[i], by simp [h1], fun e he hb => ?_⟩
      have := Array.all_eq_true'.1 h3 e (by simpa using he)
      simpa [hb] using this
    · rintro ⟨h1, h2, o, ho, hp⟩
      refine ⟨h1, ?_, ?_⟩
      · rw [hgd i h1, h2]; rfl
      · have ho' : t.toArray[i]? = some o := by simpa using ho
        rw [ho']
        simp only [Option.map_some, Option.getD_some]
        refine Array.all_eq_true'.2 fun e he => ?_
        cases hb : Region.binds .any e
        · simp
        · simp [hp e (by simpa using he) hb]
  intro fuel
  induction fuel with
  | zero =>
    intro listed g a w hls hc hcl hG hM
    have hall := cntB_zero (l := fun i => listed.getD i false) (n := t.length) (by omega)
    refine ⟨?_, hd _ g a w hall hG hM⟩
    apply List.eq_nil_iff_forall_not_mem.2
    intro i hi
    obtain ⟨h1, h2, _⟩ := (hready listed hls i).1 hi
    have := hall i h1
    rw [h2] at this; cases this
  | succ fuel ih =>
    intro listed g a w hls hc hcl hG hM
    refine ⟨fun h0 => ?_, fun i hi => ?_⟩
    · by_cases hz : 0 < cntB (fun i => listed.getD i false) t.length
      · obtain ⟨i, h1, h2, h3⟩ := cntB_pos hz
        have ho : t[i]? = some t[i] := by simp [h1]
        obtain ⟨_, q2, _⟩ := envB_at N t 0 [] hB i _ ho
        have : i ∈ Region.ready .any t.toArray listed := (hready listed hls i).2 ⟨h1, h2, _, ho, fun e he hb => h3 _ (by have := q2 e he hb; omega)⟩
        rw [h0] at this
        simp at this
      · exact hd _ g a w (cntB_zero (by omega)) hG hM
    · obtain ⟨h1, h2, o, ho, hp⟩ := (hready listed hls i).1 hi
      obtain ⟨q1, _, _⟩ := envB_at N t 0 [] hB i o ho
      have eu : (fun k => (listed.setIfInBounds i true).getD k false) = upd (fun k => listed.getD k false) i true := by
        funext k
        by_cases e : k = i
        · subst e; rw [upd_same, Array.getD_eq_getD_getElem?, Array.getElem?_setIfInBounds_self_of_lt (by omega)]; rfl
        · rw [upd_other _ _ e, Array.getD_eq_getD_getElem?, Array.getD_eq_getD_getElem?, Array.getElem?_setIfInBounds_ne (Ne.symm e)]
      unfold wpOp
      have ho' : t.toArray[i]? = some o := by simpa using ho
      have hw : Region.wanted o (yielded t.toArray a.tmps) = true := by simp [Region.wanted, q1]
      simp only [ho', hw, if_true]
      refine .inl ?_
      have hst := Steps.at t 0 hS i o ho (fun k => listed.getD k false) g a w (wpAny P .any t.toArray Q fuel (listed.setIfInBounds i true)) hp hcl (by rw [Nat.zero_add]; exact h2) hG hM
      refine hst fun g' w' hk hM' => ?_
      rw [Nat.zero_add] at hM' ⊢
      refine ih _ g' _ w' (by simp [hls]) ?_ ?_ ?_ ?_
      · rw [eu]
        have := cntB_upd (fun k => listed.getD k false) h1 h2
        omega
      · rw [eu]
        intro j oj hj hl e he hb
        by_cases e1 : e.on = i
        · rw [e1, upd_same]
        · rw [upd_other _ _ e1]
          by_cases e2 : j = i
          · subst e2
            rw [ho] at hj; cases hj
            exact hp e he hb
          · rw [upd_other _ _ e2] at hl
            exact hcl j oj hj hl e he hb
      · rw [eu]; exact hG.put hN hB ho hk
      · rw [eu]; exact hM'

/-- THE LAW. -/
theorem region_env {P : Program} {id : Nat} {Q : Exit → Act → World → Prop} {w : World} (V : Nat → γ → Value) (M : (Nat → Bool) → γ → World → Prop) (N : Nat) (g0 : γ) (hm : P.follows .mixedOrders = true) (hN : a0.tmps.size = N) (hB : envB N t 0 [] = true)
    (h0 : M (fun _ => false) g0 w.drew) (hS : Steps P Q t V M a0 0 t)
    (hd : ∀ l g a w, (∀ i, i < t.length → l i = true) → Good t V a0 l g a → M l g w → Q .normal a w) : (Code.region id t.toArray true).wp P Q a0 w := by
  refine wp_region_any hm (any_env hN hB hS hd _ _ g0 _ _ (by simp) ?_ ?_ ?_ ?_)
  · have : ∀ n (l : Nat → Bool), cntB l n ≤ n := fun n l => by
      induction n with
      | zero => exact Nat.le_refl _
      | succ n ih => simp only [cntB]; split <;> omega
    simpa using this _ _
  · intro i o _ hl
    have : (Array.replicate t.toArray.size false).getD i false = false := by simp [Array.getD]
    have hl' : (Array.replicate t.toArray.size false).getD i false = true := hl
    rw [this] at hl'; cases hl'
  · have e : (fun i => (Array.replicate t.toArray.size false).getD i false) = fun _ => false := by funext i; simp [Array.getD]
    rw [e]
    refine ⟨rfl, rfl, fun s => ?_⟩
    cases wrF t 0 s <;> simp
  · have e : (fun i => (Array.replicate t.toArray.size false).getD i false) = fun _ => false := by funext i; simp [Array.getD]
    rw [e]
    exact h0

/-- The frame behind it, written out. -/
def putF (V : Nat → Value) : List Oper → Nat → Array Value → Array Value
  | [], _, A => A
  | o :: r, k, A => putF V r (k + 1) (match o.dst with
    | some d => A.setIfInBounds d (V k)
    | none => A)
theorem putF_size (V : Nat → Value) : ∀ (t : List Oper) (k : Nat) (A : Array Value), (putF V t k A).size = A.size
  | [], _, _ => rfl
  | o :: r, k, A => by
    simp only [putF]
    rw [putF_size]
    cases o.dst <;> simp
theorem putF_val (V : Nat → Value) (N : Nat) : ∀ (t : List Oper) (k : Nat) (ds : List Nat) (A : Array Value), A.size = N → envB N t k ds = true → ∀ s, (putF V t k A).getD s undef = match wrF t k s with
    | some j => V j
    | none => A.getD s undef
  | [], _, _, _, _, _, _ => rfl
  | o :: r, k, ds, A, hA, hB, s => by
    have hB0 := hB
    simp only [envB, Bool.and_eq_true] at hB
    obtain ⟨_, h3⟩ := hB
    simp only [putF, wrF]
    cases hd : o.dst with
    | none =>
      rw [hd] at h3
      exact putF_val V N r (k + 1) ds A hA h3 s
    | some d =>
      rw [hd] at h3
      simp only [Bool.and_eq_true] at h3
      obtain ⟨⟨p1, _⟩, h4⟩ := h3
      have p1' : d < A.size := by rw [hA]; simpa using p1
      simp only
      rw [putF_val V N r (k + 1) (d :: ds) _ (by simp [hA]) h4 s]
      by_cases e : d = s
      · subst e
        simp only [beq_self_eq_true, if_true]
        cases hj : wrF r (k + 1) d with
        | none => simp only; rw [getD_set _ _ _ _ p1']; simp
        | some j =>
          obtain ⟨o', q1, q2, q3⟩ := wrF_some r (k + 1) d j hj
          exact absurd (List.mem_cons_self) ((envB_at N r (k + 1) (d :: ds) h4 _ o' q1).2.2 d q2).2.1
      · have e' : (d == s) = false := by simpa using e
        simp only [e', Bool.false_eq_true, if_false]
        cases hj : wrF r (k + 1) s with
        | none => simp only; rw [getD_set _ _ _ _ p1']; simp [Ne.symm e]
        | some j => rfl
theorem Good.frame (h : Good t V a0 l g a) {N : Nat} (hN : a0.tmps.size = N) (hB : envB N t 0 [] = true) (hl : ∀ i, i < t.length → l i = true) : a = ⟨putF (fun j => V j g) t 0 a0.tmps, a0.defers⟩ := by
  have hs : a.tmps = putF (fun j => V j g) t 0 a0.tmps := by
    apply Array.ext
    · rw [putF_size, h.sz]
    · intro i h1 h2
      have hv := h.val i
      have hp := putF_val (fun j => V j g) N t 0 [] a0.tmps hN hB i
      have e1 : a.tmps.getD i undef = a.tmps[i] := by simp [Array.getD, h1]
      have e2 : (putF (fun j => V j g) t 0 a0.tmps).getD i undef = (putF (fun j => V j g) t 0 a0.tmps)[i] := by simp [Array.getD, h2]
      rw [← e1, ← e2, hv, hp]
      cases hj : wrF t 0 i with
      | none => rfl
      | some j =>
        obtain ⟨o', q1, _, _⟩ := wrF_some t 0 i j hj
        have := (List.getElem?_eq_some_iff.1 q1).1
        simp only [hl j (by omega), if_true]
  obtain ⟨tm, df⟩ := a
  have hdf := h.df
  simp only at hs hdf
  rw [hs, hdf]
end
end Go.Proofs.YbulkexmzaGreat
