/-
  Plain laws on the zigzag's bits.
-/
import Derived.Test.YbulkexmwwFmtUv
import Derived.Laws.DeepNot64
import Derived.WalkSmall
namespace Go.Proofs.YbulkexmwwFmt
open Go.RowKit

def zz (u : Int) : Int := if u % 2 = 0 then u / 2 else -1 - u / 2

theorem xor_comm_i64 (a b : Int) : bits .xor .i64 a b = bits .xor .i64 b a := by
  simp only [bits]
  rw [BitVec.xor_comm]

theorem xor_zero_i64 (a : Nat) (ha : a < 9223372036854775808) : bits .xor .i64 (a : Int) 0 = a := by
  have h := i64_not a ha
  simp only [bits] at *
  rw [show BitVec.ofInt IntKind.i64.bits 0 = 0#(IntKind.i64.bits) from rfl, BitVec.xor_zero]
  rw [BitVec.ofInt_natCast, BitVec.toNat_ofNat]
  have e : (a % 2 ^ IntKind.i64.bits : Nat) = a := Nat.mod_eq_of_lt (by simp [IntKind.bits]; omega)
  rw [e]
  rw [IntKind.wrap_i64]
  have := h
  omega

theorem wrap64_small (x : Int) (h0 : -9223372036854775808 ≤ x) (h1 : x ≤ 9223372036854775807) : wrap64 x = x := by
  unfold wrap64; omega

theorem zz_go (u : Int) (h0 : 0 ≤ u) (h1 : u ≤ 18446744073709551615) :
    bits BinOp.xor IntKind.i64 (u / 2) (wrap64 (-wrap64 (bits BinOp.and IntKind.u64 u 1))) = zz u := by
  rw [and_one_u64 u h0 h1, wrap64_small (u % 2) (by omega) (by omega), wrap64_small (-(u % 2)) (by omega) (by omega)]
  have e : ((u / 2).toNat : Int) = u / 2 := by omega
  unfold zz
  rcases Int.emod_two_eq u with h | h
  · rw [h, if_pos rfl, show (-(0 : Int)) = 0 from rfl, ← e, xor_zero_i64 _ (by omega)]
  · rw [h, if_neg (by decide), xor_comm_i64, ← e]
    exact i64_not _ (by omega)

theorem not_go (u : Int) (h0 : 0 ≤ u) (h1 : u ≤ 18446744073709551615) : bits BinOp.xor IntKind.i64 (-1) (u / 2) = -1 - u / 2 := by
  have e : ((u / 2).toNat : Int) = u / 2 := by omega
  rw [← e]
  exact i64_not _ (by omega)

theorem zz_range (u : Int) (h0 : 0 ≤ u) (h1 : u ≤ 18446744073709551615) : -9223372036854775808 ≤ zz u ∧ zz u ≤ 9223372036854775807 := by
  unfold zz; split <;> omega

/-- What dec gives is within a uint64. -/
theorem or_range (x y : Int) : 0 ≤ bits .or .u64 x y ∧ bits .or .u64 x y ≤ 18446744073709551615 := by
  simp only [bits]
  rw [show ∀ n : Int, IntKind.u64.wrap n = n % 18446744073709551616 from fun n => by simp [IntKind.wrap, IntKind.bits, IntKind.signed]]
  omega

theorem dec_range (l : List Int) : ∀ (x : Int) (i : Nat), 0 ≤ x → x ≤ 18446744073709551615 → 0 ≤ (dec x i l).1 ∧ (dec x i l).1 ≤ 18446744073709551615 := by
  induction l with
  | nil => intro x i h0 h1; exact ⟨h0, h1⟩
  | cons c cs ih =>
    intro x i h0 h1
    unfold dec
    split
    · exact ⟨h0, h1⟩
    · split
      · split
        · exact ⟨h0, h1⟩
        · exact or_range _ _
      · exact ih _ _ (or_range _ _).1 (or_range _ _).2

theorem decV_range (l : List Int) : 0 ≤ decV (dec 0 0 l) ∧ decV (dec 0 0 l) ≤ 18446744073709551615 := by
  have := dec_range l 0 0 (by omega) (by omega)
  unfold decV; split <;> omega

/-- Uvarint's second result by the state. -/
theorem dec_n (l : List Int) : ∀ (x : Int) (i : Nat), i ≤ 10 → ((dec x i l).2.2 = 0 ∧ (dec x i l).2.1 = 0) ∨ ((dec x i l).2.2 = 1 ∧ (dec x i l).2.1 < 0) ∨ ((dec x i l).2.2 = 2 ∧ (i : Int) < (dec x i l).2.1 ∧ (dec x i l).2.1 ≤ i + l.length) := by
  induction l with
  | nil => intro x i h; exact .inl ⟨rfl, rfl⟩
  | cons c cs ih =>
    intro x i h
    unfold dec
    split
    · refine .inr (.inl ⟨rfl, ?_⟩); show (-((i : Int) + 1)) < 0; omega
    · rename_i hi
      split
      · split
        · refine .inr (.inl ⟨rfl, ?_⟩); show (-((i : Int) + 1)) < 0; omega
        · refine .inr (.inr ⟨rfl, ?_, ?_⟩)
          · show (i : Int) < (i : Int) + 1; omega
          · show (i : Int) + 1 ≤ _; simp; omega
      · rcases ih (bits .or .u64 x (IntKind.u64.wrap (c % 128 * 2 ^ (7 * i)))) (i + 1) (by omega) with h | h | h
        · exact .inl h
        · exact .inr (.inl h)
        · refine .inr (.inr ⟨h.1, ?_, ?_⟩)
          · have := h.2.1; omega
          · have := h.2.2; simp at this ⊢; omega
end Go.Proofs.YbulkexmwwFmt
