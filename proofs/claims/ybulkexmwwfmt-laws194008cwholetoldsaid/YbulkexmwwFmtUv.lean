/-
  THE WALK over encoding/binary.Uvarint (function 16), after the guide's UvarintWalks.lean.
-/
import Derived.Test.YbulkexmwwFmtRows
import Derived.WalkKit
import Derived.WalkSpells
import Derived.WalkLawsBesides
namespace Go.Proofs.YbulkexmwwFmt
open Go.RowKit

/-- From byte i on, x gathered so far: (the value, Uvarint's second result, 0: short, 1: too long, 2: whole). -/
def dec (x : Int) (i : Nat) : List Int → Int × Int × Nat
  | [] => (x, 0, 0)
  | c :: cs =>
    if i = 10 then (x, -((i : Int) + 1), 1)
    else if c < 128 then (if i = 9 ∧ 1 < c then (x, -((i : Int) + 1), 1) else (bits .or .u64 x (IntKind.u64.wrap (c * 2 ^ (7 * i))), (i : Int) + 1, 2))
    else dec (bits .or .u64 x (IntKind.u64.wrap (c % 128 * 2 ^ (7 * i)))) (i + 1) cs

/-- Uvarint's first result. -/
def decV (r : Int × Int × Nat) : Int := if r.2.2 = 2 then r.1 else 0

theorem drop_step {zs : List Int} {len k : Nat} (hk : k < len) (hz : len ≤ zs.length) : (zs.take len).drop k = zs[k]?.getD 0 :: (zs.take len).drop (k + 1) := by
  have h1 : k < (zs.take len).length := by simp; omega
  rw [List.drop_eq_getElem_cons h1]
  congr 1
  have h2 : k < zs.length := by omega
  simp [List.getElem_take, h2]
theorem drop_end {zs : List Int} {len k : Nat} (hk : len ≤ k) : (zs.take len).drop k = [] := by
  apply List.drop_eq_nil_of_le
  simp; omega
theorem mask127 {c : Int} (h₀ : 0 ≤ c) (h₁ : c ≤ 255) : bits .and .u8 c 127 = c % 128 := bits_mask .u8 8 (by decide) wraps_u8 7 (by decide) c h₀ (by omega)

set_option maxHeartbeats 1000000 in
theorem uvarint_any (b off len cap : Nat) (zs : List Int) (w : World) (hz : len ≤ zs.length) (hmax : len ≤ 1048576)
    (hc : ∀ j, j < len → w.cell? ⟨b, off + j, none⟩ = some (.int .u8 (zs.getD j 0)))
    (hr : ∀ j : Nat, 0 ≤ zs[j]?.getD 0 ∧ zs[j]?.getD 0 ≤ 255) :
    Calls Ybaf.prog 16 #[.slice (some ⟨b, off, none⟩) len cap] w fun e w' =>
      e = .returned (.tuple #[.int .u64 (decV (dec 0 0 (zs.take len))), .int .i64 (dec 0 0 (zs.take len)).2.1]) ∧ w' = w := by
  go_enter Ybaf.func16, Ybaf.ntmps16
  go_wp2
  go_loop [4, 5, 10] (fun x sh i => ∃ (k : Nat) (X : Int), k ≤ len ∧ k ≤ 10 ∧ i = .int .i64 k ∧ sh = .int .u64 (7 * k : Nat) ∧ x = .int .u64 X ∧ dec 0 0 (zs.take len) = dec X k ((zs.take len).drop k)) (fun _ _ i => len - (intOf i).toNat)
  case atStart => exact ⟨0, 0, by omega, by omega, rfl, rfl, rfl, rfl⟩
  case round =>
    obtain ⟨k, X, hk, hk10, rfl, rfl, rfl, hd⟩ := hrel
    have hcell : k < len → w.cell? ⟨b, off + k, none⟩ = some (.int .u8 (zs.getD k 0)) := fun h => hc k (by omega)
    have hrk := hr k
    have hmask := mask127 hrk.1 hrk.2
    have HD : Hid (dec 0 0 (zs.take len) = dec X k ((zs.take len).drop k)) := hd
    clear hd hc hr
    go_wp2
    · have hlt : k < len := by assumption
      have h10 : ((k : Int) == 10) = true := by assumption
      have hk : k = 10 := by have := WalkArith.int_eq h10; omega
      have hv : dec 0 0 (zs.take len) = (X, -((k : Int) + 1), 1) := by rw [HD.out, drop_step hlt hz]; simp [dec, hk]
      go_ret2
      exact ⟨by rw [hv]; simp [decV, hk], rfl⟩
    · have hlt : k < len := by assumption
      have h9 : (k : Int) = 9 := by assumption
      have hc1 : 1 < zs[k]?.getD 0 := by assumption
      have hc128 : zs[k]?.getD 0 < 128 := by assumption
      obtain rfl : k = 9 := by omega
      have hv : dec 0 0 (zs.take len) = (X, -((9 : Int) + 1), 1) := by rw [HD.out, drop_step hlt hz]; simp [dec, hc1, hc128]
      go_ret2
      exact ⟨by rw [hv]; simp [decV], rfl⟩
    · have hlt : k < len := by assumption
      have h9 : (k : Int) = 9 := by assumption
      have hc1 : zs[k]?.getD 0 ≤ 1 := by assumption
      obtain rfl : k = 9 := by omega
      have hv : dec 0 0 (zs.take len) = (bits .or .u64 X (zs[(9 : Nat)]?.getD 0 * 9223372036854775808), 9 + 1, 2) := by
        rw [HD.out, drop_step hlt hz]
        have hn : ¬ 1 < zs[(9 : Nat)]?.getD 0 := by omega
        have hc128 : zs[(9 : Nat)]?.getD 0 < 128 := by omega
        have hw : IntKind.u64.wrap (zs[(9 : Nat)]?.getD 0 * 9223372036854775808) = zs[(9 : Nat)]?.getD 0 * 9223372036854775808 := IntWalk.u64_in _ ⟨by omega, by omega⟩
        simp [dec, hn, hc128, hw]
      go_ret2
      exact ⟨by rw [hv]; simp [decV], rfl⟩
    · have hlt : k < len := by assumption
      have h10 : ((k : Int) == 10) = false := by assumption
      have h9 : ¬ (k : Int) = 9 := by assumption
      have hc128 : zs[k]?.getD 0 < 128 := by assumption
      have hk10' : k ≠ 10 := by have := WalkArith.int_ne h10; omega
      have hk9 : k ≠ 9 := by omega
      have hv : dec 0 0 (zs.take len) = (bits .or .u64 X (IntKind.u64.wrap (zs[k]?.getD 0 * 2 ^ (7 * k))), (k : Int) + 1, 2) := by rw [HD.out, drop_step hlt hz]; simp [dec, hk10', hk9, hc128]
      go_ret2
      exact ⟨by rw [hv]; simp [decV], rfl⟩
    · have hlt : k < len := by assumption
      have h10 : ((k : Int) == 10) = false := by assumption
      have hc128 : 128 ≤ zs[k]?.getD 0 := by assumption
      have hk10' : k ≠ 10 := by have := WalkArith.int_ne h10; omega
      have hn : ¬ zs[k]?.getD 0 < 128 := by omega
      go_round
      case rel => exact ⟨k + 1, _, by omega, by omega, by go_num, by go_num, rfl, by rw [HD.out, drop_step hlt hz]; simp [dec, hk10', hn]⟩
      case measure => simp [intOf]; omega
    · have hge : ¬ k < len := by assumption
      have hv : dec 0 0 (zs.take len) = (X, 0, 0) := by rw [HD.out, drop_end (by omega)]; rfl
      go_ret2
      exact ⟨by rw [hv]; simp [decV], rfl⟩

/-- A slice of length 0. -/
theorem uvarint_empty (a : Option Addr) (cap : Nat) (w : World) :
    Calls Ybaf.prog 16 #[.slice a 0 cap] w fun e w' => e = .returned (.tuple #[.int .u64 0, .int .i64 0]) ∧ w' = w := by
  go_enter Ybaf.func16, Ybaf.ntmps16
  go_wp2
  refine wp_loop_rounds 1 ?_
  rw [rounds_succ]
  go_wp2
  go_ret2
  exact ⟨rfl, rfl⟩
end Go.Proofs.YbulkexmwwFmt
