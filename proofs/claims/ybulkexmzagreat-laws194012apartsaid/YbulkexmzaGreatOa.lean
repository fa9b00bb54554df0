/-
  sink.order's helpers: waysOf (12), sunk (24), slices.Backward of blocks (25, 43).
-/
import Derived.Test.YbulkexmzaGreatNg
namespace Go.Proofs.YbulkexmzaGreat
open Go.RowKit Go.Shelf

attribute [local go_sem] Oper.semAt_some

set_option maxHeartbeats 2000000 in
set_option maxRecDepth 100000 in
theorem ways12 {w : World} {b k : Nat} {pv sv : Value} (kk : w.cell? ⟨b, 2, none⟩ = some (.int .u8 (k : Nat))) (hk : k ≠ 1) (ks : w.cell? ⟨b, 4, none⟩ = some sv) :
    Calls Ybaz.prog 12 #[.pointer (some ⟨b, 0, none⟩), pv] w fun e w' => e = .returned sv ∧ w' = w := by
  have hne : ¬ ((k : Nat) : Int) = 1 := by omega
  have hd : decide (((k : Nat) : Int) = 1) = false := by simpa using hne
  have hd2 : decide (k = 1) = false := by simpa using hk
  go_enter Ybaz.func12, Ybaz.ntmps12
  go_wp2
  go_ret
  exact ⟨rfl, rfl⟩

set_option maxHeartbeats 2000000 in
set_option maxRecDepth 100000 in
theorem sunk24 {w : World} {b s k : Nat} {pv : Value} (kk : w.cell? ⟨b, 2, none⟩ = some (.int .u8 (k : Nat))) (hk : k ≠ 1) :
    Calls Ybaz.prog 24 #[.pointer (some ⟨b, 0, none⟩), .pointer (some ⟨s, 0, none⟩), pv] w fun e w' => e = .returned (.bool false) ∧ w' = w.drew := by
  have hne : ¬ ((k : Nat) : Int) = 1 := by omega
  have hd : decide (((k : Nat) : Int) = 1) = false := by simpa using hne
  have hd2 : decide (k = 1) = false := by simpa using hk
  go_enter Ybaz.func24, Ybaz.ntmps24
  go_wp2
  go_still (by kernel_rfl)
  go_wp2
  go_ret
  exact ⟨rfl, rfl⟩

set_option maxRecDepth 100000 in
theorem back25 (a : Option Addr) (len cap : Nat) (w : World) : Calls Ybaz.prog 25 #[.slice a len cap] w fun e w' => e = .returned (.func (.func 43) #[] #[.pointer (some ⟨w.heap.size, 0, none⟩)]) ∧ w' = w.alloc (.cells #[.slice a len cap] 39) := by
  go_enter Ybaz.func25, Ybaz.ntmps25
  go_wp2
  go_ret
  exact ⟨rfl, rfl⟩

set_option maxRecDepth 100000 in
set_option maxHeartbeats 2000000 in
theorem back43 {m Bs b off len cap : Nat} {ao : Option Addr} (zs : Nat → Nat) (hao : 0 < len → ao = some ⟨b, off, none⟩) (hlen : len ≤ 1000000000) (J : Nat → World → Prop)
    (hJ : ∀ k W, J k W → W.cell? ⟨Bs, 0, none⟩ = some (.slice ao len cap) ∧ ∀ j, j < len → W.cell? ⟨b, off + j, none⟩ = some (.pointer (some ⟨zs j, 0, none⟩)))
    (l : Nat) (W : World) (JJ : Nat → World → Prop) (hJJ : ∀ k W, JJ k W → J k W)
    (hY : ∀ k W1, k < len → JJ k W1 → YieldAt Fence.wide (m - 1) Ybaz.prog l #[.int .i64 ((len - 1 - k : Nat) : Int), .pointer (some ⟨zs (len - 1 - k), 0, none⟩)] W1 fun e W' => e = .returned (.bool true) ∧ JJ (k + 1) W') (h0 : JJ 0 W) :
    CallsIn Fence.wide m Ybaz.prog 43 (#[.func (.yield l) #[] #[]] ++ #[.pointer (some ⟨Bs, 0, none⟩)]) W fun e W' => (∃ v, e = .returned v) ∧ JJ len W' := by
  have q0 := (hJ 0 W (hJJ 0 W h0)).1
  refine callsIn_of_wp Ybaz.func43 rfl trivial ?_ rfl
  simp only [Ybaz.ntmps43, List.size_toArray, List.length_cons, List.length_nil, Nat.reduceAdd, Nat.reduceSub, Array.replicate_succ, Array.replicate_zero, List.push_toArray, List.append_toArray, List.nil_append, List.cons_append]
  gi_wp2
  clear q0
  gi_loopw [3] (fun i wr => ∃ k : Nat, k ≤ len ∧ i = .int .i64 ((len : Int) - 1 - k) ∧ JJ k wr) (fun i _ => (intOf i + 1).toNat)
  case atStart => exact ⟨0, Nat.zero_le _, by simp, h0⟩
  case round =>
    obtain ⟨k, hk, rfl, hjj⟩ := hrel
    obtain ⟨q0, q1⟩ := hJ k wr (hJJ k wr hjj)
    by_cases hlt : k < len
    · obtain rfl := hao (by omega)
      obtain ⟨fn, tmps, assign, body, hy, hR⟩ := hY k wr hlt hjj
      have q2 := q1 (len - 1 - k) (by omega)
      have e1 : (len : Int) - 1 - k = ((len - 1 - k : Nat) : Int) := by omega
      have hj : ((len - 1 - k : Nat) : Int) < (len : Int) := by omega
      have HR : Hid (RoundIn Fence.wide (m - 1) Ybaz.prog l fn tmps assign body wr fun e W' => e = .returned (.bool true) ∧ JJ (k + 1) W') := hR
      have HE : Hid (k + 1 ≤ len ∧ (((len - 1 - k : Nat) : Int) - 1 = (len : Int) - 1 - ((k + 1 : Nat) : Int))) := ⟨hlt, by omega⟩
      rw [e1]
      clear e1 hJ hY hJJ q1 hR hjj
      generalize hi : len - 1 - k = i at *
      have hil : i ≤ 1000000000 := by omega
      gi_wp2
      refine ⟨fun h => (by cases h), RoundIn.mono HR.out ?_⟩
      rintro e W3 ⟨rfl, hj3⟩
      gi_wp2
      go_roundw
      case rel => exact ⟨k + 1, HE.out.1, by rw [HE.out.2], hj3⟩
      case measure => simp [intOf]
    · obtain rfl : k = len := by omega
      have e1 : (k : Int) - 1 - k = -1 := by omega
      rw [e1]
      gi_wp2
      go_end0
      exact ⟨⟨_, rfl⟩, hjj⟩
end Go.Proofs.YbulkexmzaGreat
