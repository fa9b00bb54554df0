/-
  slices.Repeat over one int (20), with bits.Mul (41) and bits.Mul64 (63).
-/
import Derived.Test.YbulkexmzaGreatSw
import Derived.Laws.CopyOwn
import Derived.Laws.BitsLemmas
import Derived.Laws.Bits64
namespace Go.Proofs.YbulkexmzaGreat
open Go.RowKit

theorem and_mask (n : Nat) (hn : n ≤ 100000000) : bits .and .u64 (n : Nat) 4294967295 = (n : Int) := by
  have h := bits_mask .u64 63 (by decide) (fun n h₀ h₁ => by rw [IntKind.wrap_u64]; omega) 32 (by decide) (n : Int) (by omega) (by omega)
  have e : ((2 : Int) ^ 32 - 1) = 4294967295 := by decide
  have e2 : ((2 : Int) ^ 32) = 4294967296 := by decide
  rw [e, e2] at h
  rw [h]
  omega

set_option maxRecDepth 100000 in
theorem mul63 (n : Nat) (hn : n ≤ 100000000) (w : World) : Calls Ybaz.prog 63 #[.int .u64 1, .int .u64 (n : Nat)] w fun e w' => e = .returned (.tuple #[.int .u64 0, .int .u64 (n : Nat)]) ∧ w' = w := by
  have h1 : bits .and .u64 1 4294967295 = 1 := by decide
  have h0 : bits .and .u64 0 4294967295 = 0 := by decide
  have h2 := and_mask n hn
  have h4 : (n : Int) / 4294967296 = 0 := by omega
  go_enter Ybaz.func63, Ybaz.ntmps63
  go_wp2
  go_ret2
  exact ⟨rfl, rfl⟩

set_option maxRecDepth 100000 in
theorem mul41 (n : Nat) (hn : n ≤ 100000000) (w : World) : Calls Ybaz.prog 41 #[.int .u64 1, .int .u64 (n : Nat)] w fun e w' => e = .returned (.tuple #[.int .u64 0, .int .u64 (n : Nat)]) ∧ w' = w := by
  have HM := mul63 n hn w
  have HMH : Hid _ := HM
  clear HM
  go_enter Ybaz.func41, Ybaz.ntmps41
  go_wp2_with (go_at_call 63; refine Calls.mono HMH.out ?_; rintro e w1 ⟨rfl, rfl⟩; dsimp only)
  go_ret2
  exact ⟨rfl, rfl⟩

def fil (n k : Nat) (z : Value) : List Value := List.replicate k z ++ List.replicate (n - k) (.int .i64 0)
theorem fil_length {n k : Nat} (z : Value) (h : k ≤ n) : (fil n k z).length = n := by simp [fil]; omega
theorem fil_splice {n k j : Nat} (z : Value) (h : k + j ≤ n) : splice (fil n k z) k (List.replicate j z) = fil n (k + j) z := by
  unfold splice fil
  rw [List.take_left' (by simp), List.drop_append, List.drop_of_length_le (by simp)]
  simp only [List.nil_append, List.length_replicate, List.drop_replicate]
  rw [← List.append_assoc, List.replicate_append_replicate]
  congr 2
  omega
theorem fil_zero (n : Nat) (z : Value) : (fil n 0 z) = List.replicate n (.int .i64 0) := by simp [fil]
theorem fil_full (n : Nat) (z : Value) : fil n n z = List.replicate n z := by simp [fil]
theorem fil_at {n k j : Nat} (z : Value) (h : j < k) : (fil n k z)[j]? = some z := by
  rw [fil, List.getElem?_append_left (by simpa using h)]
  simp [h]

theorem Ybaz.info3 : (Ybaz.prog.info? 3).map (fun i => (i.zero, i.size, i.bytes)) = some (some (.int .i64 0), 1, 8) := by kernel_rfl
theorem made_list (n : Nat) : madeCells #[Value.int .i64 0] n = (List.replicate n (Value.int .i64 0)).toArray := by
  apply Array.ext
  · simp [size_madeCells]
  · intro i h1 h2
    simp [madeCells, Nat.mod_one]
theorem rep_one {w : World} {b j k : Nat} {z v : Value} (hx : w.cell? ⟨b, 0, none⟩ = some z) (hj : (List.replicate (min 1 k) z)[j]? = some v) : w.cell? ((⟨b, 0, none⟩ : Addr).add j) = some v := by
  obtain ⟨h1, h2⟩ := List.getElem?_eq_some_iff.1 hj
  simp at h1 h2
  obtain rfl : j = 0 := by omega
  rw [← h2]; exact hx

theorem rep_more {w : World} {g j k m n : Nat} {z v : Value} (hg : w.heap[g]? = some (.cells (fil n k z).toArray 3 (0, 0))) (hj : (List.replicate (min k m) z)[j]? = some v) : w.drew.cell? ((⟨g, 0, none⟩ : Addr).add j) = some v := by
  obtain ⟨h1, h2⟩ := List.getElem?_eq_some_iff.1 hj
  simp only [List.length_replicate] at h1
  simp at h2
  subst h2
  have := fil_at (n := n) z (show j < k by omega)
  have e : (⟨g, 0, none⟩ : Addr).add j = ⟨g, j, none⟩ := by cases j <;> simp [Addr.add]
  rw [e]
  show w.cell? ⟨g, j, none⟩ = some z
  simp only [World.cell?, hg]
  simpa using this

set_option maxHeartbeats 4000000 in
set_option maxRecDepth 100000 in
theorem repeat20 {w : World} {b c : Nat} (z : Int) (n : Nat) (hn : n ≤ 100000000) (hx : w.cell? ⟨b, 0, none⟩ = some (.int .i64 z)) :
    Calls Ybaz.prog 20 #[.slice (some ⟨b, 0, none⟩) 1 c, .int .i64 (n : Nat)] w fun e w' =>
      e = .returned (.slice (some ⟨w.heap.size, 0, none⟩) n n) ∧ w.Since w.heap.size w' ∧ RowOk w' w.heap.size (arr n (fun _ => z)) := by
  have HM : Hid _ := mul41 n hn w
  have hbl : b < w.heap.size := World.block_lt_of_cell? _ _ hx
  have HX : Hid (w.cell? ⟨b, 0, none⟩ = some (.int .i64 z)) := hx
  clear hx
  have hmk := run_make_row' (P := Ybaz.prog) 46 3 (.int .i64 0) 8 Ybaz.underlying46 Ybaz.info3 rfl .i64 .i64 n (by omega) (by omega)
  go_enter Ybaz.func20, Ybaz.ntmps20
  refine wp_seq_hid (fun K HK => ?_)
  go_wp2
  refine HK.out _ _ ?_
  clear HK K
  refine wp_seq_hid (fun K HK => ?_)
  go_wp2
  refine HK.out _ _ ?_
  clear HK K
  refine wp_seq_hid (fun K HK => ?_)
  go_wp2_with (go_at_call 41; refine Calls.mono HM.out ?_; rintro e w1 ⟨rfl, rfl⟩; dsimp only)
  refine HK.out _ _ ?_
  clear HK K HM
  refine wp_seq_hid (fun K HK => ?_)
  go_wp2
  refine HK.out _ _ ?_
  clear HK K
  refine wp_seq_hid (fun K HK => ?_)
  go_wp2
  refine HK.out _ _ ?_
  clear HK K
  have HG : Hid ((w1.alloc (.cells (madeCells #[.int .i64 0] n) 3)).heap[w1.heap.size]? = some (.cells (fil n 0 (.int .i64 z)).toArray 3 (0, 0))) := by
    rw [fil_zero]
    have := Go.Deep.blk_alloc_new w1 (.cells (madeCells #[.int .i64 0] n) 3)
    show _ = _
    rw [this, made_list]
  have HX2 : Hid ((w1.alloc (.cells (madeCells #[.int .i64 0] n) 3)).cell? ⟨b, 0, none⟩ = some (.int .i64 z)) := by
    have := ((World.Since.refl w1.heap.size w1).alloc (Nat.le_refl _) (.cells (madeCells #[.int .i64 0] n) 3)).cell (a := ⟨b, 0, none⟩) hbl
    show _ = _
    rw [this]; exact HX.out
  have HS2 : Hid (World.Since w1.heap.size w1 (w1.alloc (.cells (madeCells #[.int .i64 0] n) 3))) := (World.Since.refl w1.heap.size w1).alloc (Nat.le_refl _) _
  generalize w1.alloc (.cells (madeCells #[.int .i64 0] n) 3) = w2 at HG HX2 HS2 ⊢
  refine wp_seq_hid (fun K HK => ?_)
  go_wp2_with (refine wpList_copy_splice rfl (.tmp 31) (.tmp 32) 46 46 rfl 3 Ybaz.underlying46 (by kernel_rfl) _ _ n n 1 c rfl rfl w1.heap.size 0 (fil n 0 (.int .i64 z)) 3 HG.out (List.replicate (min 1 n) (.int .i64 z)) (by simp [Nat.min_def]) (fun _ => ⟨rfl, _, rfl, fun j v hj => ?zz⟩) (by rw [fil_length _ (Nat.zero_le _)]; simp; omega) (fun v hv => by rw [List.eq_of_mem_replicate hv]; rfl) w1.heap.size w2 (Below.refl _ _) (Nat.le_refl _) ?_; (case zz => exact rep_one HX2.out hj); intro w3 hg3 hb3)
  refine HK.out _ _ ?_
  clear HK K
  have HR : Hid (w3.heap[w1.heap.size]? = some (.cells (fil n (min 1 n) (.int .i64 z)).toArray 3 (0, 0)) ∧ World.Since w1.heap.size w1 w3) := by
    refine ⟨?_, HS2.out.trans ⟨hb3.os, hb3.tape, hb3.output, hb3.size, hb3.block⟩⟩
    have := hg3.out
    rwa [fil_splice _ (by omega), Nat.zero_add] at this
  clear hg3 hb3 HG HX2 HS2 hmk
  obtain ⟨k0, hk0⟩ : ∃ k0, k0 = min 1 n := ⟨_, rfl⟩
  rw [← hk0] at HR ⊢
  have hk1 : k0 ≤ n ∧ (n = 0 ∨ 0 < k0) := by omega
  clear hk0
  refine wp_seq_hid (fun K HK => ?_)
  go_wp2
  go_loopg [8] (n - k0) (fun g s8 wx => ∃ k : Nat, n - k = g ∧ s8 = .int .i64 (k : Nat) ∧ k ≤ n ∧ (n = 0 ∨ 0 < k) ∧ wx.heap[w1.heap.size]? = some (.cells (fil n k (.int .i64 z)).toArray 3 (0, 0)) ∧ World.Since w1.heap.size w1 wx)
  case atStart => exact ⟨k0, rfl, rfl, hk1.1, hk1.2, HR.out⟩
  case round =>
    clear HR
    obtain ⟨k, rfl, rfl, hk, hk0', hrow, hs⟩ := hrel
    have HR : Hid (wr.heap[w1.heap.size]? = some (.cells (fil n k (.int .i64 z)).toArray 3 (0, 0)) ∧ World.Since w1.heap.size w1 wr) := ⟨hrow, hs⟩
    clear hrow hs
    by_cases hlt : k < n
    · have hltz : (k : Int) < (n : Int) := by omega
      have e1 : (n : Int) - k = ((n - k : Nat) : Int) := by omega
      have hne : ¬ n = k := by omega
      go_wp2_with fail
      refine wp_normal ?_
      go_region_law (refine step_copy_splice (by kernel_rfl) (.tmp 41) (.tmp 44) 46 46 (by kernel_rfl) 3 Ybaz.underlying46 (by kernel_rfl) (some ⟨w1.heap.size, k, none⟩) (some ⟨w1.heap.size, 0, none⟩) (n - k) (n - k) k n (by kernel_rfl) (by kernel_rfl) w1.heap.size k (fil n k (.int .i64 z)) 3 HR.out.1 (List.replicate (min k (n - k)) (.int .i64 z)) (by simp [Nat.min_def]) (fun _ => ⟨rfl, _, rfl, fun j v hj => rep_more HR.out.1 hj⟩) (by rw [fil_length _ hk]; simp; omega) (fun v hv => by rw [List.eq_of_mem_replicate hv]; rfl) w1.heap.size _ (Below.refl _ _) (Nat.le_refl _) ?_; intro w4 hg4 hb4)
      all_goals
        have HN : Hid (w4.heap[w1.heap.size]? = some (.cells (fil n (k + min k (n - k)) (.int .i64 z)).toArray 3 (0, 0)) ∧ World.Since w1.heap.size w1 w4) := by
          refine ⟨?_, HR.out.2.drew.trans ⟨hb4.os, hb4.tape, hb4.output, hb4.size, hb4.block⟩⟩
          have := hg4.out
          rwa [fil_splice _ (by omega)] at this
        obtain ⟨k2, hk2⟩ : ∃ k2, k2 = k + min k (n - k) := ⟨_, rfl⟩
        rw [← hk2] at HN
        have hk3 : ((k : Int) + ((min k (n - k) : Nat) : Int)) = ((k2 : Nat) : Int) := by omega
        have hk4 : k < k2 ∧ k2 ≤ n := by omega
        clear hg4 hb4 HR
        have hwr : IntKind.i64.wrap ((k : Int) + ((min k (n - k) : Nat) : Int)) = ((k2 : Nat) : Int) := by rw [hk3, IntKind.wrap_i64]; omega
        rw [hwr]
        clear hk2 hk3 hwr
        dsimp only [Norm]
        go_wp2
        go_roundg (n - k2)
        case measure => go_light; omega
        case rel => go_light; exact ⟨k2, rfl, rfl, hk4.2, .inr (by omega), HN.out⟩
    · obtain rfl : k = n := by omega
      go_wp2
      refine HK.out _ _ ?_
      go_wp2
      go_ret
      refine ⟨rfl, HR.out.2, _, HR.out.1, by simp [fil_length]; rfl, fun i v hv => ?_⟩
      rw [fil_full] at hv
      have hv' := hv
      rw [List.toArray_replicate] at hv'
      obtain ⟨h1, h2⟩ := Array.getElem?_eq_some_iff.1 hv'
      simp at h2
      exact h2.symm
end Go.Proofs.YbulkexmzaGreat
