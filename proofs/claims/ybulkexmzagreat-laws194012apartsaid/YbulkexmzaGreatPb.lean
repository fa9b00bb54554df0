/-
  RUNS of blocks (no Go in sight): ab j says that block j is joined to the one ahead of it. en x j: where the run from j ends within the first x blocks; gm x: how many blocks of the first x lead a run; gd x k: the k-th of them.
-/
import Derived.Test.YbulkexmzaGreatPa
namespace Go.Proofs.YbulkexmzaGreat

section
variable (ab : Nat → Bool)
def en : Nat → Nat → Nat
  | 0, j => j
  | x + 1, j => if ab x = true ∧ en x j + 1 = x then x else en x j
def gm : Nat → Nat
  | 0 => 0
  | x + 1 => if ab x = true then gm x else gm x + 1
def gd : Nat → Nat → Nat
  | 0, _ => 0
  | x + 1, k => if ab x = true then gd x k else if k = gm ab x then x else gd x k
variable {ab}
theorem gm_step (x : Nat) : gm ab (x + 1) = if ab x = true then gm ab x else gm ab x + 1 := rfl
theorem en_ge (x j : Nat) : j ≤ en ab x j := by
  induction x with
  | zero => exact Nat.le_refl _
  | succ x ih => unfold en; split <;> omega
theorem en_self {x j : Nat} (h : x ≤ j + 1) : en ab x j = j := by
  induction x with
  | zero => rfl
  | succ x ih =>
    unfold en
    have := ih (by omega)
    rw [if_neg (by omega)]; exact this
theorem en_lt {x j : Nat} (h : j < x) : en ab x j < x := by
  induction x with
  | zero => omega
  | succ x ih =>
    unfold en
    split
    · omega
    · by_cases e : j < x
      · have := ih e; omega
      · rw [en_self (by omega)]; omega
theorem en_run {x j t : Nat} (h1 : j < t) (h2 : t ≤ en ab x j) : ab t = true := by
  induction x with
  | zero => have : en ab 0 j = j := rfl; omega
  | succ x ih =>
    unfold en at h2
    split at h2
    · rename_i hc
      by_cases e : t = x
      · rw [e]; exact hc.1
      · exact ih (by omega)
    · exact ih h2
theorem en_stop {x j : Nat} (h : j < x) : en ab x j + 1 = x ∨ ab (en ab x j + 1) = false := by
  induction x with
  | zero => omega
  | succ x ih =>
    unfold en
    split
    · exact .inl rfl
    · rename_i hc
      by_cases e : j < x
      · rcases ih e with h1 | h1
        · refine .inr ?_
          rw [h1]
          cases hb : ab x
          · rfl
          · exact absurd ⟨hb, h1⟩ hc
        · exact .inr h1
      · rw [en_self (by omega)]
        exact .inl (by omega)
theorem gm_le (x : Nat) : gm ab x ≤ x := by
  induction x with
  | zero => exact Nat.le_refl _
  | succ x ih => unfold gm; split <;> omega
theorem gm_mono {x y : Nat} (h : x ≤ y) : gm ab x ≤ gm ab y := by
  induction y with
  | zero => rw [Nat.le_zero.1 h]; exact Nat.le_refl _
  | succ y ih =>
    by_cases e : x = y + 1
    · rw [e]; exact Nat.le_refl _
    · have := ih (by omega)
      rw [gm_step]; split <;> omega
theorem gd_facts (x k : Nat) (h : k < gm ab x) : gd ab x k < x ∧ ab (gd ab x k) = false ∧ gm ab (gd ab x k) = k := by
  induction x with
  | zero => have : gm ab 0 = 0 := rfl; omega
  | succ x ih =>
    unfold gd
    unfold gm at h
    by_cases hb : ab x = true
    · rw [if_pos hb] at h ⊢
      have := ih h
      exact ⟨by omega, this.2⟩
    · rw [if_neg hb] at h ⊢
      by_cases e : k = gm ab x
      · rw [if_pos e]
        exact ⟨by omega, by simpa using hb, e.symm⟩
      · rw [if_neg e]
        have := ih (by omega)
        exact ⟨by omega, this.2⟩
theorem gd_lt {x k : Nat} (h : k < gm ab x) : gd ab x k < x := (gd_facts x k h).1
theorem gd_not {x k : Nat} (h : k < gm ab x) : ab (gd ab x k) = false := (gd_facts x k h).2.1
theorem gm_gd {x k : Nat} (h : k < gm ab x) : gm ab (gd ab x k) = k := (gd_facts x k h).2.2
theorem gm_lt {x j : Nat} (hj : j < x) (hb : ab j = false) : gm ab j < gm ab x := by
  have h1 : gm ab (j + 1) = gm ab j + 1 := by rw [gm_step, hb]; rfl
  have h2 := gm_mono (ab := ab) (show j + 1 ≤ x by omega)
  omega
theorem gd_gm {x j : Nat} (hj : j < x) (hb : ab j = false) : gd ab x (gm ab j) = j := by
  induction x with
  | zero => omega
  | succ x ih =>
    unfold gd
    by_cases e : j = x
    · subst e
      rw [hb, if_neg (by simp), if_pos rfl]
    · have h1 := ih (by omega)
      have h2 := gm_lt (show j < x by omega) hb
      split
      · exact h1
      · rw [if_neg (by omega)]; exact h1
theorem gd_old {x k : Nat} (h : k < gm ab x) : gd ab (x + 1) k = gd ab x k := by
  have : gd ab (x + 1) k = if ab x = true then gd ab x k else if k = gm ab x then x else gd ab x k := rfl
  rw [this]
  split
  · rfl
  · rw [if_neg (by omega)]
theorem gm_yes {x : Nat} (h : ab x = true) : gm ab (x + 1) = gm ab x := by
  have : gm ab (x + 1) = if ab x = true then gm ab x else gm ab x + 1 := rfl
  rw [this, if_pos h]
theorem gm_no {x : Nat} (h : ab x = false) : gm ab (x + 1) = gm ab x + 1 := by
  have : gm ab (x + 1) = if ab x = true then gm ab x else gm ab x + 1 := rfl
  rw [this, h]; rfl
theorem gd_new {x : Nat} (h : ab x = false) : gd ab (x + 1) (gm ab x) = x := gd_gm (Nat.lt_succ_self x) h
theorem gm_pos (h0 : ab 0 = false) {x : Nat} (hx : 0 < x) : 0 < gm ab x := by
  have := gm_lt hx h0
  have h : gm ab 0 = 0 := rfl
  omega
theorem en_yes {x j : Nat} (h : ab x = true) (he : en ab x j + 1 = x) : en ab (x + 1) j = x := by
  have : en ab (x + 1) j = if ab x = true ∧ en ab x j + 1 = x then x else en ab x j := rfl
  rw [this, if_pos ⟨h, he⟩]
theorem en_no {x j : Nat} (h : ¬ (ab x = true ∧ en ab x j + 1 = x)) : en ab (x + 1) j = en ab x j := by
  have : en ab (x + 1) j = if ab x = true ∧ en ab x j + 1 = x then x else en ab x j := rfl
  rw [this, if_neg h]
/-- Two runs do not end at one place. -/
theorem en_inj {x i j : Nat} (hi : ab i = false) (hj : ab j = false) (h : en ab x i = en ab x j) : i = j := by
  have h1 := en_ge (ab := ab) x i
  have h2 := en_ge (ab := ab) x j
  rcases Nat.lt_trichotomy i j with hlt | he | hlt
  · have := en_run (ab := ab) (x := x) hlt (by omega)
    rw [hj] at this; cases this
  · exact he
  · have := en_run (ab := ab) (x := x) hlt (by omega)
    rw [hi] at this; cases this
/-- The last of the runs so far ends where we stand. -/
theorem en_last (h0 : ab 0 = false) {x : Nat} (hx : 0 < x) : en ab x (gd ab x (gm ab x - 1)) + 1 = x := by
  induction x with
  | zero => omega
  | succ x ih =>
    by_cases hb : ab x = true
    · have hx0 : 0 < x := by
        rcases Nat.eq_zero_or_pos x with e | e
        · subst e; rw [h0] at hb; cases hb
        · exact e
      have h1 := ih hx0
      have h2 := gm_pos h0 hx0
      rw [gm_yes hb, gd_old (by omega), en_yes hb h1]
    · have hb' : ab x = false := by simpa using hb
      rw [gm_no hb', Nat.add_sub_cancel, gd_new hb', en_self (Nat.le_refl _)]
theorem en_old {x k : Nat} (h0 : ab 0 = false) (hk : k + 1 < gm ab x) : en ab (x + 1) (gd ab x k) = en ab x (gd ab x k) := by
  refine en_no (fun h => ?_)
  have hx : 0 < x := by
    have := gm_le (ab := ab) x
    omega
  have h1 := en_last h0 hx
  have h2 := en_inj (ab := ab) (x := x) (gd_not (show k < gm ab x by omega)) (gd_not (show gm ab x - 1 < gm ab x by omega)) (by omega)
  have h3 := gm_gd (show k < gm ab x by omega)
  have h4 := gm_gd (show gm ab x - 1 < gm ab x by omega)
  rw [h2] at h3
  omega
end
/-- ab, of the edges: block j goes with the one ahead of it if that one jumps to it and no other does. -/
def abs (mt : Bool) (tg : Nat → Option Nat) (n j : Nat) : Bool := mt && decide (0 < j) && decide (tg (j - 1) = some j) && decide (pd tg n j = 1)
theorem abs_iff {mt : Bool} {tg : Nat → Option Nat} {n j : Nat} : abs mt tg n j = true ↔ mt = true ∧ 0 < j ∧ tg (j - 1) = some j ∧ pd tg n j = 1 := by
  unfold abs
  simp only [Bool.and_eq_true, decide_eq_true_eq]
  constructor
  · rintro ⟨⟨⟨h1, h2⟩, h3⟩, h4⟩; exact ⟨h1, h2, h3, h4⟩
  · rintro ⟨h1, h2, h3, h4⟩; exact ⟨⟨⟨h1, h2⟩, h3⟩, h4⟩
theorem abs_zero (mt : Bool) (tg : Nat → Option Nat) (n : Nat) : abs mt tg n 0 = false := by simp [abs]
theorem cn_two {tg : Nat → Option Nat} {t a b : Nat} (hab : a < b) (ha : tg a = some t) (hb : tg b = some t) : ∀ {n}, b < n → 2 ≤ cn tg n t := by
  have one : ∀ n, a < n → 1 ≤ cn tg n t := fun n => by
    induction n with
    | zero => intro h; omega
    | succ n ih =>
      intro h
      unfold cn
      by_cases e : a = n
      · subst e; rw [if_pos ha]; omega
      · have := ih (by omega); omega
  intro n
  induction n with
  | zero => intro h; omega
  | succ n ih =>
    intro h
    unfold cn
    by_cases e : b = n
    · subst e
      rw [if_pos hb]
      have := one b hab
      omega
    · have := ih (by omega); omega
/-- What a run's last block leads to leads a run itself. -/
theorem abs_succ {mt : Bool} {tg : Nat → Option Nat} {n j t : Nat} (hj : j < n) (ht : tg (en (abs mt tg n) n j) = some t) (htn : t < n) : abs mt tg n t = false := by
  cases hb : abs mt tg n t with
  | false => rfl
  | true =>
    obtain ⟨_, h0, h1, h2⟩ := abs_iff.1 hb
    have he := en_lt (ab := abs mt tg n) hj
    have hcn : cn tg n t ≤ 1 := by
      unfold pd at h2
      omega
    by_cases e : en (abs mt tg n) n j = t - 1
    · rcases en_stop (ab := abs mt tg n) hj with h3 | h3
      · omega
      · rw [e, show t - 1 + 1 = t by omega, hb] at h3; cases h3
    · rcases Nat.lt_or_gt_of_ne e with hlt | hlt
      · have := cn_two hlt ht h1 (n := n) (by omega); omega
      · have := cn_two hlt h1 ht (n := n) (by omega); omega
/-- The instructions of the blocks from s to e, each by its block and its place. -/
def cat (ki : Nat → Nat) (s e : Nat) : List (Nat × Nat) := (List.range' s (e + 1 - s)).flatMap fun b => (List.range (ki b)).map fun t => (b, t)
theorem cat_one (ki : Nat → Nat) (j : Nat) : cat ki j j = (List.range (ki j)).map fun t => (j, t) := by
  unfold cat
  rw [show j + 1 - j = 1 by omega]
  simp [List.range']
theorem cat_succ (ki : Nat → Nat) {s e : Nat} (h : s ≤ e) : cat ki s (e + 1) = cat ki s e ++ cat ki (e + 1) (e + 1) := by
  unfold cat
  rw [show e + 1 + 1 - s = (e + 1 - s) + 1 by omega, show e + 1 + 1 - (e + 1) = 1 by omega, List.range'_concat, List.flatMap_append]
  congr 1
  simp [show s + (e + 1 - s) = e + 1 by omega]
theorem cat_len (ki : Nat → Nat) (hk : ∀ j, ki j ≤ 3) {s e : Nat} (h : s ≤ e) : (cat ki s e).length ≤ 3 * (e + 1 - s) := by
  induction e with
  | zero =>
    obtain rfl : s = 0 := by omega
    rw [cat_one]
    have := hk 0
    simp; omega
  | succ e ih =>
    by_cases e1 : s = e + 1
    · subst e1
      rw [cat_one]
      have := hk (e + 1)
      simp; omega
    · rw [cat_succ ki (by omega), cat_one, List.length_append]
      have h1 := ih (by omega)
      have h2 := hk (e + 1)
      simp; omega
theorem cat_mem (ki : Nat → Nat) {s e : Nat} {b t : Nat} (h : (b, t) ∈ cat ki s e) : s ≤ b ∧ b ≤ e ∧ t < ki b := by
  unfold cat at h
  simp only [List.mem_flatMap, List.mem_range'_1, List.mem_map, List.mem_range, Prod.mk.injEq] at h
  obtain ⟨a, h1, c, h2, rfl, rfl⟩ := h
  exact ⟨h1.1, by omega, h2⟩
end Go.Proofs.YbulkexmzaGreat
