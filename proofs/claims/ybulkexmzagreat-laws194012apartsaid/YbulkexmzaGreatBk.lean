/-
  slices.Backward over ints (60, 85): the iterator.
-/
import Derived.Test.YbulkexmzaGreatRb
namespace Go.Proofs.YbulkexmzaGreat
open Go.RowKit Go.Shelf

attribute [local go_sem] Oper.semAt_some

set_option maxRecDepth 100000 in
set_option maxHeartbeats 2000000 in
theorem back85 {m Bs b off len cap : Nat} {ao : Option Addr} (zs : Nat → Int) (hao : 0 < len → ao = some ⟨b, off, none⟩) (hlen : len ≤ 1000000000) (J : Nat → World → Prop)
    (hJ : ∀ k W, J k W → W.cell? ⟨Bs, 0, none⟩ = some (.slice ao len cap) ∧ ∀ j, j < len → W.cell? ⟨b, off + j, none⟩ = some (.int .i64 (zs j)))
    (l : Nat) (W : World) (JJ : Nat → World → Prop) (hJJ : ∀ k W, JJ k W → J k W)
    (hY : ∀ k W1, k < len → JJ k W1 → YieldAt Fence.wide (m - 1) Ybaz.prog l #[.int .i64 ((len - 1 - k : Nat) : Int), .int .i64 (zs (len - 1 - k))] W1 fun e W' => e = .returned (.bool true) ∧ JJ (k + 1) W') (h0 : JJ 0 W) :
    CallsIn Fence.wide m Ybaz.prog 85 (#[.func (.yield l) #[] #[]] ++ #[.pointer (some ⟨Bs, 0, none⟩)]) W fun e W' => (∃ v, e = .returned v) ∧ JJ len W' := by
  have q0 := (hJ 0 W (hJJ 0 W h0)).1
  refine callsIn_of_wp Ybaz.func85 rfl trivial ?_ rfl
  simp only [Ybaz.ntmps85, List.size_toArray, List.length_cons, List.length_nil, Nat.reduceAdd, Nat.reduceSub, Array.replicate_succ, Array.replicate_zero, List.push_toArray, List.append_toArray, List.nil_append, List.cons_append]
  gi_wp2
  clear q0
  gi_loopw [3] (fun i wr => ∃ k : Nat, k ≤ len ∧ i = .int .i64 ((len : Int) - 1 - k) ∧ JJ k wr) (fun i _ => (intOf i + 1).toNat)
  case atStart => exact ⟨0, Nat.zero_le _, by simp, h0⟩
  case round =>
    obtain ⟨k, hk, rfl, hjj⟩ := hrel
    obtain ⟨q0, q1⟩ := hJ k wr (hJJ k wr hjj)
    by_cases hlt : k < len
    · obtain rfl := hao (by omega)
      obtain ⟨fn, tmps, assign, body, hy, hR⟩ := hY k wr hlt hjj
      have q2 := q1 (len - 1 - k) (by omega)
      have e1 : (len : Int) - 1 - k = ((len - 1 - k : Nat) : Int) := by omega
      have hj : ((len - 1 - k : Nat) : Int) < (len : Int) := by omega
      have HR : Hid (RoundIn Fence.wide (m - 1) Ybaz.prog l fn tmps assign body wr fun e W' => e = .returned (.bool true) ∧ JJ (k + 1) W') := hR
      have HE : Hid (k + 1 ≤ len ∧ (((len - 1 - k : Nat) : Int) - 1 = (len : Int) - 1 - ((k + 1 : Nat) : Int))) := ⟨hlt, by omega⟩
      rw [e1]
      clear e1 hJ hY hJJ q1 hR hjj
      generalize hi : len - 1 - k = i at *
      have hil : i ≤ 1000000000 := by omega
      gi_wp2
      refine ⟨fun h => (by cases h), RoundIn.mono HR.out ?_⟩
      rintro e W3 ⟨rfl, hj3⟩
      gi_wp2
      go_roundw
      case rel => exact ⟨k + 1, HE.out.1, by rw [HE.out.2], hj3⟩
      case measure => simp [intOf]
    · obtain rfl : k = len := by omega
      have e1 : (k : Int) - 1 - k = -1 := by omega
      rw [e1]
      gi_wp2
      go_end0
      exact ⟨⟨_, rfl⟩, hjj⟩
end Go.Proofs.YbulkexmzaGreat
