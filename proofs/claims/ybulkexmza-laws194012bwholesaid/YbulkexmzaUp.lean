/-
  THE PLAIN RECKONING of link.layout, and the walks over the small functions (5, 7, 8, 10).
-/
import Derived.Test.YbulkexmzaRows
import Derived.WalkKit
import Derived.WalkSpells
import Derived.WalkLawsBesides
import Derived.Laws.BitsAllLaws
namespace Go.Proofs.Ybulkexmza
open Go.RowKit

/-- An alignment by its selector, and what of it counts. -/
def al (s : Nat) : Int := if s % 17 = 0 then 0 else if s % 17 = 1 then -5 else ((2 ^ (s % 17 - 2) : Nat) : Int)
def eff (s : Nat) : Nat := if s % 17 < 2 then 1 else 2 ^ (s % 17 - 2)
def up (n a : Nat) : Nat := (n + a - 1) / a * a

theorem eff_pow (s : Nat) : ∃ k, k ≤ 14 ∧ eff s = 2 ^ k := by
  have := Nat.mod_lt s (show 0 < 17 by omega)
  by_cases h : s % 17 < 2
  · exact ⟨0, by omega, by simp [eff, h]⟩
  · exact ⟨s % 17 - 2, by omega, by simp [eff, h]⟩
theorem pow_le {k : Nat} (h : k ≤ 14) : 1 ≤ 2 ^ k ∧ 2 ^ k ≤ 16384 :=
  ⟨Nat.one_le_two_pow, Nat.pow_le_pow_right (by omega) h⟩
theorem eff_le (s : Nat) : 1 ≤ eff s ∧ eff s ≤ 16384 := by
  obtain ⟨k, hk, e⟩ := eff_pow s
  rw [e]; exact pow_le hk
theorem al_eff (s : Nat) : (al s < 1 → eff s = 1) ∧ (¬ al s < 1 → al s = eff s) := by
  unfold al eff
  by_cases h0 : s % 17 = 0
  · simp [h0]
  by_cases h1 : s % 17 = 1
  · simp [h1]
  have h2 : ¬ s % 17 < 2 := by omega
  simp only [h0, h1, h2, if_false]
  have := Nat.one_le_two_pow (n := s % 17 - 2)
  generalize 2 ^ (s % 17 - 2) = p at *
  constructor
  · intro; omega
  · intro; trivial
theorem al_le (s : Nat) : -5 ≤ al s ∧ al s ≤ 16384 := by
  have h := al_eff s
  have := eff_le s
  by_cases hl : al s < 1
  · refine ⟨?_, by omega⟩
    unfold al
    generalize 2 ^ (s % 17 - 2) = p
    split
    · omega
    · split <;> omega
  · have := h.2 hl; omega

theorem up_le {n a : Nat} (h : 1 ≤ a) : n ≤ up n a ∧ up n a + 1 ≤ n + a := by
  unfold up
  have h1 := Nat.div_add_mod (n + a - 1) a
  have h2 := Nat.mod_lt (n + a - 1) (show 0 < a by omega)
  rw [Nat.mul_comm] at h1
  omega

theorem and_up (a k : Nat) (hk : k ≤ 14) (ha : a < 2 ^ 64) : a &&& (2 ^ 64 - 1 - (2 ^ k - 1)) = a / 2 ^ k * 2 ^ k := by
  apply Nat.eq_of_testBit_eq
  intro i
  have h1 : 2 ^ 64 - 1 - (2 ^ k - 1) = 2 ^ 64 - ((2 ^ k - 1) + 1) := by omega
  have h2 : 2 ^ k - 1 < 2 ^ 64 := by have := (pow_le hk).2; omega
  rw [Nat.testBit_and, h1, Nat.testBit_two_pow_sub_succ h2, Nat.testBit_two_pow_sub_one]
  rw [← Nat.shiftRight_eq_div_pow, ← Nat.shiftLeft_eq, Nat.testBit_shiftLeft, Nat.testBit_shiftRight]
  by_cases hik : k ≤ i
  · rw [show k + (i - k) = i by omega]
    by_cases h64 : i < 64
    · simp [hik, h64]
    · have : a.testBit i = false := Nat.testBit_lt_two_pow (Nat.lt_of_lt_of_le ha (Nat.pow_le_pow_right (by omega) (by omega)))
      simp [this]
  · simp [hik, show i < k by omega]

set_option maxHeartbeats 400000 in
set_option maxRecDepth 100000 in
theorem align_any (s : Nat) (_hs : s < 256) (w : World) : Calls Yba.prog 5 #[.int .u8 s] w fun e w' => e = .returned (.int .i64 (al s)) ∧ w = w' := by
  have hrem : Int.tmod (s : Int) 17 = ((s % 17 : Nat) : Int) := by rw [show (17 : Int) = ((17 : Nat) : Int) from rfl, Int.ofNat_tmod]
  have hm := Nat.mod_lt s (show 0 < 17 by omega)
  have hal : al s = if s % 17 = 0 then 0 else if s % 17 = 1 then -5 else ((2 ^ (s % 17 - 2) : Nat) : Int) := rfl
  generalize al s = z at *
  generalize s % 17 = m at *
  have hmm : m = 0 ∨ m = 1 ∨ m = 2 ∨ m = 3 ∨ m = 4 ∨ m = 5 ∨ m = 6 ∨ m = 7 ∨ m = 8 ∨ m = 9 ∨ m = 10 ∨ m = 11 ∨ m = 12 ∨ m = 13 ∨ m = 14 ∨ m = 15 ∨ m = 16 := by omega
  rcases hmm with rfl | rfl | rfl | rfl | rfl | rfl | rfl | rfl | rfl | rfl | rfl | rfl | rfl | rfl | rfl | rfl | rfl <;>
  · simp at hal hrem
    subst hal
    clear hm
    go_enter Yba.func5, Yba.ntmps5
    go_wp2
    go_ret
    exact ⟨rfl, rfl⟩

theorem beff_any (s : Nat) (w : World) : Calls Yba.prog 8 #[.int .i64 (al s)] w fun e w' => e = .returned (.int .u64 (eff s)) ∧ w = w' := by
  have h1 := al_eff s
  have h2 := al_le s
  have h3 := eff_le s
  generalize al s = z at *
  generalize eff s = n at *
  by_cases h : z < 1
  · obtain rfl := h1.1 h
    go_enter Yba.func8, Yba.ntmps8
    go_wp2
    go_ret
    exact ⟨rfl, rfl⟩
  · obtain rfl := h1.2 h
    go_enter Yba.func8, Yba.ntmps8
    go_wp2
    go_ret
    exact ⟨by simp, rfl⟩

theorem bround_any (n a : Nat) (ha : 1 ≤ a) (hb : n + a < 18446744073709551616) (w : World) : Calls Yba.prog 7 #[.int .u64 n, .int .u64 a] w fun e w' => e = .returned (.int .u64 (up n a)) ∧ w = w' := by
  have h1 := up_le (n := n) ha
  have hq : Int.tdiv ((n : Int) + a - 1) a = (((n + a - 1) / a : Nat) : Int) := by
    rw [show (n : Int) + a - 1 = ((n + a - 1 : Nat) : Int) by omega]
    exact (Int.ofNat_tdiv _ _).symm
  have haz : ¬ (a : Int) = 0 := by omega
  have hu : (n + a - 1) / a * a = up n a := rfl
  have hd : (n + a - 1) / a ≤ n + a - 1 := Nat.div_le_self _ _
  generalize (n + a - 1) / a = q at *
  have hm : (q : Int) * (a : Int) = ((up n a : Nat) : Int) := by rw [← hu]; simp
  generalize up n a = u at *
  go_enter Yba.func7, Yba.ntmps7
  go_wp2
  go_ret
  exact ⟨rfl, rfl⟩

theorem alignUp_any (n k : Nat) (hk : k ≤ 14) (hb : n < 9223372036854775808) (w : World) : Calls Yba.prog 10 #[.int .u64 n, .int .u64 ((2 ^ k : Nat) : Int)] w fun e w' => e = .returned (.int .u64 (up n (2 ^ k))) ∧ w = w' := by
  have hp := pow_le hk
  have hbits := u64_andNot_nat (n + 2 ^ k - 1) (2 ^ k - 1) (by omega) (by omega)
  have hup : (n + 2 ^ k - 1) &&& (18446744073709551615 - (2 ^ k - 1)) = up n (2 ^ k) := and_up (n + 2 ^ k - 1) k hk (by omega)
  rw [hup] at hbits
  generalize up n (2 ^ k) = u at *
  clear hup
  rw [show ((n + 2 ^ k - 1 : Nat) : Int) = (n : Int) + ((2 ^ k : Nat) : Int) - 1 by omega, show ((2 ^ k - 1 : Nat) : Int) = ((2 ^ k : Nat) : Int) - 1 by omega] at hbits
  generalize 2 ^ k = a at *
  go_enter Yba.func10, Yba.ntmps10
  go_wp2
  go_ret
  exact ⟨rfl, rfl⟩
end Go.Proofs.Ybulkexmza
