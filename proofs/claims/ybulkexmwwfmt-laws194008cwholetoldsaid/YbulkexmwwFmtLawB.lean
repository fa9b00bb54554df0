/-
  THE LAW's WALK (3), second part: an i32.
-/
import Derived.Test.YbulkexmwwFmtLawA
namespace Go.Proofs.YbulkexmwwFmt
open Go.RowKit Go.Extern.Stop Go.Stop Go.Extern

/-- Int32 of the reader that the law has made. -/
theorem int32_any (F : Interp) (ao : Option Addr) (n c k : Nat) (zs : List Int) (depth : Int) (a0 a1 : Addr) (w1 : World) (hb : Bytes w1 ao n c zs) (hF : F.answers w1.tape) (hk : k ≤ n) (h2 : 1 < w1.heap.size)
    (hg0 : w1.cell? ⟨0, 0, none⟩ = some (.iface 58 (.pointer (some a0)))) (hg1 : w1.cell? ⟨1, 0, none⟩ = some (.iface 58 (.pointer (some a1)))) :
    Calls Ybaf.prog 5 #[.pointer (some ⟨w1.heap.size, 0, none⟩), .int .u8 5] (w1.alloc (.cells #[.slice ao n c, .int .i64 k, .int .i64 depth] 28)) fun e w3 =>
      IntPost (dec 0 0 (zs.drop k)) w1.heap.size n k a0 a1 (w1.alloc (.cells #[.slice ao n c, .int .i64 k, .int .i64 depth] 28)) e w3 := by
  have hB : Below w1.heap.size w1 (w1.alloc (.cells #[.slice ao n c, .int .i64 k, .int .i64 depth] 28)) := (Below.refl _ w1).alloc (Nat.le_refl _) _
  have e0 : (zs.take n).drop k = zs.drop k := by rw [List.take_of_length_le (by rw [hb.len]; exact Nat.le_refl _)]
  have hr := dec_range (zs.drop k) 0 0 (by omega) (by omega)
  have c0 : (w1.alloc (.cells #[.slice ao n c, .int .i64 k, .int .i64 depth] 28)).cell? ⟨w1.heap.size, 0, none⟩ = some (.slice ao n c) := World.cell?_alloc_at (w := w1) #[_, _, _] 28 _ 0 rfl
  have c1 : (w1.alloc (.cells #[.slice ao n c, .int .i64 k, .int .i64 depth] 28)).cell? ⟨w1.heap.size, 1, none⟩ = some (.int .i64 k) := World.cell?_alloc_at (w := w1) #[_, _, _] 28 _ 1 rfl
  have f1 : (w1.alloc (.cells #[.slice ao n c, .int .i64 k, .int .i64 depth] 28)).frozen? ⟨w1.heap.size, 1, none⟩ = false := World.frozen?_alloc_at (w := w1) #[_, _, _] 28 _ 1 rfl
  have hg0' := (hB.cell (p := ⟨0, 0, none⟩) (show 0 < w1.heap.size by omega)).trans hg0
  have hg1' := (hB.cell (p := ⟨1, 0, none⟩) h2).trans hg1
  have hb' := hb.below hB
  refine int32_of F _ _ n k a0 a1 _ (by exact hF) hr.1 hr.2 c1 (varint_of _ _ _ n k a0 a1 _ hr.1 hr.2 ?_)
  show Calls _ _ _ _ _
  by_cases hlt : k < n
  · cases ao with
    | none => have := (hb.nil rfl).1; omega
    | some a =>
      obtain ⟨b, off, rfl, hcc⟩ := hb'.plain (by omega)
      have := raw_some w1.heap.size b off n c k zs a0 a1 _ hlt hb.cap (by rw [hb.len]; exact Nat.le_refl _) hb.max hcc hb.range c0 c1 f1 hg0' hg1'
      rw [e0] at this
      exact this
  · obtain rfl : k = n := by omega
    exact raw_end w1.heap.size k c ao (zs.drop k) (List.drop_eq_nil_of_le (by rw [hb.len]; exact Nat.le_refl _)) a0 a1 _ hb.cap hb.nil c0 c1 hg0'

theorem dstep {zs : List Int} {k j : Nat} (h : k + j < zs.length) : (zs.drop k).drop j = zs[k + j]?.getD 0 :: (zs.drop k).drop (j + 1) := by
  rw [List.drop_drop, List.drop_drop, List.drop_eq_getElem_cons h]
  simp [h, Nat.add_assoc]
theorem dend {zs : List Int} {k j : Nat} (h : zs.length ≤ k + j) : (zs.drop k).drop j = [] := by
  rw [List.drop_drop]; exact List.drop_eq_nil_of_le h

/-! What dec says on each way of the law's own loop. -/
theorem way1 {zs : List Int} {k : Nat} (X : Int) (h : k + 10 < zs.length) : dec X 10 ((zs.drop k).drop 10) = (X, -11, 1) := by
  rw [dstep h]; simp [dec]
theorem way2 {zs : List Int} {k : Nat} (X : Int) (h : k + 9 < zs.length) (h1 : zs[k + 9]?.getD 0 < 128) (h2 : 1 < zs[k + 9]?.getD 0) : dec X 9 ((zs.drop k).drop 9) = (X, -10, 1) := by
  rw [dstep h]; simp [dec, h1, h2]
theorem way3 {zs : List Int} {k : Nat} (X : Int) (h : k + 9 < zs.length) (h0 : 0 ≤ zs[k + 9]?.getD 0) (h1 : zs[k + 9]?.getD 0 ≤ 1) : dec X 9 ((zs.drop k).drop 9) = (bits .or .u64 X (zs[k + 9]?.getD 0 * 9223372036854775808), 10, 2) := by
  have hn : ¬ 1 < zs[k + 9]?.getD 0 := by omega
  have hc128 : zs[k + 9]?.getD 0 < 128 := by omega
  have hw : IntKind.u64.wrap (zs[k + 9]?.getD 0 * 9223372036854775808) = zs[k + 9]?.getD 0 * 9223372036854775808 := IntWalk.u64_in _ ⟨by omega, by omega⟩
  rw [dstep h]; simp [dec, hn, hc128, hw]
theorem way4 {zs : List Int} {k j : Nat} (X : Int) (h : k + j < zs.length) (hj : j < 9) (h1 : zs[k + j]?.getD 0 < 128) : dec X j ((zs.drop k).drop j) = (bits .or .u64 X (IntKind.u64.wrap (zs[k + j]?.getD 0 * 2 ^ (7 * j))), (j : Int) + 1, 2) := by
  have h10 : j ≠ 10 := by omega
  have h9 : j ≠ 9 := by omega
  rw [dstep h]; simp [dec, h10, h9, h1]
theorem way5 {zs : List Int} {k j : Nat} (X : Int) (h : k + j < zs.length) (hj : j < 10) (h1 : 128 ≤ zs[k + j]?.getD 0) : dec X j ((zs.drop k).drop j) = dec (bits .or .u64 X (IntKind.u64.wrap (zs[k + j]?.getD 0 % 128 * 2 ^ (7 * j)))) (j + 1) ((zs.drop k).drop (j + 1)) := by
  have h10 : j ≠ 10 := by omega
  have hn : ¬ zs[k + j]?.getD 0 < 128 := by omega
  rw [dstep h]; simp [dec, h10, hn]
theorem way6 {zs : List Int} {k j : Nat} (X : Int) (h : zs.length ≤ k + j) : dec X j ((zs.drop k).drop j) = (X, 0, 0) := by
  rw [dend h]; rfl

set_option maxRecDepth 100000 in
set_option maxHeartbeats 4000000 in
theorem law_some (F : Interp) (bb off n c : Nat) (zs : List Int) (at_ depth t : Int) (b : Bool) (a0 a1 : Addr) (w : World) (hb : Bytes w (some ⟨bb, off, none⟩) n c zs) (hat0 : 0 ≤ at_) (hat1 : at_ ≤ 18446744073709551615)
    (hbt : b = true ∨ (b = false ∧ t = 5)) (hF : F.answers w.tape) (h2 : 1 < w.heap.size)
    (hg0 : w.cell? ⟨0, 0, none⟩ = some (.iface 58 (.pointer (some a0)))) (hg1 : w.cell? ⟨1, 0, none⟩ = some (.iface 58 (.pointer (some a1)))) :
    Calls Ybaf.prog 3 #[.slice (some ⟨bb, off, none⟩) n c, .int .u64 at_, .int .i64 depth, .int .u8 t, .bool b] w fun e w' => e = .returned (.bool true) ∧ Below w.heap.size w w' := by
  have hn : (n : Int) ≤ 1048576 := by have := hb.max; omega
  obtain ⟨k, hk, hkn⟩ := start_k n at_ hn
  have HB : Hid (Bytes w (some ⟨bb, off, none⟩) n c zs) := hb
  have HF : Hid (F.answers w.tape) := hF
  have HG0 : Hid (w.cell? ⟨0, 0, none⟩ = some (.iface 58 (.pointer (some a0)))) := hg0
  have HG1 : Hid (w.cell? ⟨1, 0, none⟩ = some (.iface 58 (.pointer (some a1)))) := hg1
  have HL : Hid (zs.length = n) := hb.len
  have hrx := dec_range (zs.drop k) 0 0 (by omega) (by omega)
  obtain ⟨D, hD⟩ : ∃ D, D = dec 0 0 (zs.drop k) := ⟨_, rfl⟩
  rw [← hD] at hrx
  have HDD : Hid (D = dec 0 0 (zs.drop k)) := hD
  clear hb hF hg0 hg1 hD
  obtain ⟨x, nn, st⟩ := D
  simp only at hrx
  obtain ⟨hx0, hx1⟩ := hrx
  rcases hbt with rfl | ⟨rfl, rfl⟩
  all_goals
    go_enter Ybaf.func3, Ybaf.ntmps3
    go_wp2_with fail
    refine (clone_uni w _ n c zs HB.out).mono ?_
    rintro e w1 ⟨v, rfl, hB1, hv⟩
    have HV : Hid _ := hv
    clear hv
    go_wp2_with fail
    refine (int32_any F _ n c k zs depth a0 a1 w1 (HB.out.below hB1) (by have := HF.out; unfold Interp.answers at *; rw [hB1.tape]; exact this) hkn (by have := hB1.size; omega) ((hB1.cell (p := ⟨0, 0, none⟩) (show 0 < w.heap.size by omega)).trans HG0.out) ((hB1.cell (p := ⟨1, 0, none⟩) h2).trans HG1.out)).mono ?_
    intro e w3 hpost
    rw [← HDD.out] at hpost
    rcases hpost with ⟨hst, g, hg, rfl, hy0, hy1, hB3⟩ | ⟨hst, g, hg, rfl, hy0, hy1, hB3⟩ | ⟨hst, hr0, hr1, rfl, hB3⟩ | ⟨hst, hr, g, u, y, hg, rfl, hy0, hy1, hB3⟩
    · obtain rfl : st = 0 := hst
      obtain ⟨hA, hc0, hc1, hc2⟩ := after_same hB3
      have hBB : Below w.heap.size w w3 := hB1.trans (hA.mono hB1.size)
      have hG0 := (hBB.cell (p := ⟨0, 0, none⟩) (show 0 < w.heap.size by omega)).trans HG0.out
      have hG1 := (hBB.cell (p := ⟨1, 0, none⟩) h2).trans HG1.out
      clear hB3
      go_wp2_with (go_at_call 6; refine (equal_any _ _ zs _ ((HB.out.below hBB).convert) (HV.out _ hA)).mono ?_; rintro e w' ⟨rfl, hw⟩; cases hw)
      go_loop [17, 18, 19, 20, 21] (fun st u s nn i => ∃ (j : Nat) (X : Int), k + j ≤ n ∧ j ≤ 10 ∧ st = .int .i64 0 ∧ u = .int .u64 X ∧ s = .int .u64 (7 * j : Nat) ∧ nn = .int .i64 0 ∧ i = .int .i64 j ∧ dec 0 0 (zs.drop k) = dec X j ((zs.drop k).drop j)) (fun _ _ _ _ i => n - k - (intOf i).toNat)
      case atStart => exact ⟨0, 0, by omega, by omega, rfl, rfl, rfl, rfl, rfl, rfl⟩
      case round =>
        obtain ⟨j, X, hkj, hj10, rfl, rfl, rfl, rfl, rfl, hd⟩ := hrel
        have hcell : k + j < n → w3.cell? ⟨bb, off + (k + j), none⟩ = some (.int .u8 (zs.getD (k + j) 0)) := fun h => by rw [← Go.WideShapes.add_plain]; exact (HB.out.below hBB).cell _ rfl (k + j) h
        have hrk := HB.out.range (k + j)
        have hmask := mask127 hrk.1 hrk.2
        have HD : Hid ((x, nn, 0) = dec X j ((zs.drop k).drop j)) := HDD.out.trans hd
        clear hd
        have hll : zs.length = n := HL.out
        by_cases hlt : k + j < n
        · have hlt' : (k : Int) + j < n := by omega
          have hlz : k + j < zs.length := by omega
          clear hll
          rcases (show j = 10 ∨ (j = 9 ∧ zs[k + j]?.getD 0 < 128 ∧ 1 < zs[k + j]?.getD 0) ∨ (j = 9 ∧ zs[k + j]?.getD 0 ≤ 1) ∨ (j < 9 ∧ zs[k + j]?.getD 0 < 128) ∨ (j < 10 ∧ 128 ≤ zs[k + j]?.getD 0) by omega) with rfl | ⟨rfl, hw1, hw2⟩ | ⟨rfl, hw1⟩ | ⟨hw0, hw1⟩ | ⟨hw0, hw1⟩
          · exact absurd (HD.out.trans (way1 X hlz)) (by simp)
          · exact absurd (HD.out.trans (way2 X hlz hw1 hw2)) (by simp)
          · exact absurd (HD.out.trans (way3 X hlz hrk.1 hw1)) (by simp)
          · exact absurd (HD.out.trans (way4 X hlz hw0 hw1)) (by simp)
          · have HLZ : Hid (k + j < zs.length) := hlz
            clear hlz
            go_wp2_with fail
            go_round
            case rel => exact ⟨j + 1, _, by omega, by omega, rfl, rfl, by go_num, rfl, by go_num, HDD.out.symm.trans (HD.out.trans (way5 X HLZ.out hw0 hw1))⟩
            case measure => simp [intOf]; omega
        · have hlt' : ¬ (k : Int) + j < n := by omega
          have hlz : zs.length ≤ k + j := by omega
          clear hll HD hmask hlz
          go_wp2_with (go_at_call 7; refine (cerr_same g n a0 _ hy0 hy1).mono ?_; rintro e w' ⟨rfl, hw⟩; cases hw)
          go_ret
          exact ⟨rfl, hBB⟩
    · obtain rfl : st = 1 := hst
      obtain ⟨hA, hc0, hc1, hc2⟩ := after_same hB3
      have hBB : Below w.heap.size w w3 := hB1.trans (hA.mono hB1.size)
      have hG0 := (hBB.cell (p := ⟨0, 0, none⟩) (show 0 < w.heap.size by omega)).trans HG0.out
      have hG1 := (hBB.cell (p := ⟨1, 0, none⟩) h2).trans HG1.out
      clear hB3
      go_wp2_with (go_at_call 6; refine (equal_any _ _ zs _ ((HB.out.below hBB).convert) (HV.out _ hA)).mono ?_; rintro e w' ⟨rfl, hw⟩; cases hw)
      go_loop [17, 18, 19, 20, 21] (fun st u s nn i => ∃ (j : Nat) (X : Int), k + j ≤ n ∧ j ≤ 10 ∧ st = .int .i64 0 ∧ u = .int .u64 X ∧ s = .int .u64 (7 * j : Nat) ∧ nn = .int .i64 0 ∧ i = .int .i64 j ∧ dec 0 0 (zs.drop k) = dec X j ((zs.drop k).drop j)) (fun _ _ _ _ i => n - k - (intOf i).toNat)
      case atStart => exact ⟨0, 0, by omega, by omega, rfl, rfl, rfl, rfl, rfl, rfl⟩
      case round =>
        obtain ⟨j, X, hkj, hj10, rfl, rfl, rfl, rfl, rfl, hd⟩ := hrel
        have hcell : k + j < n → w3.cell? ⟨bb, off + (k + j), none⟩ = some (.int .u8 (zs.getD (k + j) 0)) := fun h => by rw [← Go.WideShapes.add_plain]; exact (HB.out.below hBB).cell _ rfl (k + j) h
        have hrk := HB.out.range (k + j)
        have hmask := mask127 hrk.1 hrk.2
        have HD : Hid ((x, nn, 1) = dec X j ((zs.drop k).drop j)) := HDD.out.trans hd
        clear hd
        have hll : zs.length = n := HL.out
        by_cases hlt : k + j < n
        · have hlt' : (k : Int) + j < n := by omega
          have hlz : k + j < zs.length := by omega
          clear hll
          rcases (show j = 10 ∨ (j = 9 ∧ zs[k + j]?.getD 0 < 128 ∧ 1 < zs[k + j]?.getD 0) ∨ (j = 9 ∧ zs[k + j]?.getD 0 ≤ 1) ∨ (j < 9 ∧ zs[k + j]?.getD 0 < 128) ∨ (j < 10 ∧ 128 ≤ zs[k + j]?.getD 0) by omega) with rfl | ⟨rfl, hw1, hw2⟩ | ⟨rfl, hw1⟩ | ⟨hw0, hw1⟩ | ⟨hw0, hw1⟩
          · clear HD hmask hlz
            go_wp2_with (go_at_call 7; refine (cerr_same g k a1 _ hy0 hy1).mono ?_; rintro e w' ⟨rfl, hw⟩; cases hw)
            go_ret
            exact ⟨rfl, hBB⟩
          · clear HD hmask hlz
            go_wp2_with (go_at_call 7; refine (cerr_same g k a1 _ hy0 hy1).mono ?_; rintro e w' ⟨rfl, hw⟩; cases hw)
            go_ret
            exact ⟨rfl, hBB⟩
          · exact absurd (HD.out.trans (way3 X hlz hrk.1 hw1)) (by simp)
          · exact absurd (HD.out.trans (way4 X hlz hw0 hw1)) (by simp)
          · have HLZ : Hid (k + j < zs.length) := hlz
            clear hlz
            go_wp2_with fail
            go_round
            case rel => exact ⟨j + 1, _, by omega, by omega, rfl, rfl, by go_num, rfl, by go_num, HDD.out.symm.trans (HD.out.trans (way5 X HLZ.out hw0 hw1))⟩
            case measure => simp [intOf]; omega
        · have hlt' : ¬ (k : Int) + j < n := by omega
          have hlz : zs.length ≤ k + j := by omega
          exact absurd (HD.out.trans (way6 X hlz)) (by simp)
    · obtain rfl : st = 2 := hst
      obtain ⟨hA, hc0, hc1, hc2⟩ := after_moved hB3
      have hBB : Below w.heap.size w w3 := hB1.trans (hA.mono hB1.size)
      have hG0 := (hBB.cell (p := ⟨0, 0, none⟩) (show 0 < w.heap.size by omega)).trans HG0.out
      have hG1 := (hBB.cell (p := ⟨1, 0, none⟩) h2).trans HG1.out
      have HR : Hid (-2147483648 ≤ zz x ∧ zz x ≤ 2147483647) := ⟨hr0, hr1⟩
      clear hr0 hr1
      clear hB3
      go_wp2_with (go_at_call 6; refine (equal_any _ _ zs _ ((HB.out.below hBB).convert) (HV.out _ hA)).mono ?_; rintro e w' ⟨rfl, hw⟩; cases hw)
      go_loop [17, 18, 19, 20, 21] (fun st u s nn i => ∃ (j : Nat) (X : Int), k + j ≤ n ∧ j ≤ 10 ∧ st = .int .i64 0 ∧ u = .int .u64 X ∧ s = .int .u64 (7 * j : Nat) ∧ nn = .int .i64 0 ∧ i = .int .i64 j ∧ dec 0 0 (zs.drop k) = dec X j ((zs.drop k).drop j)) (fun _ _ _ _ i => n - k - (intOf i).toNat)
      case atStart => exact ⟨0, 0, by omega, by omega, rfl, rfl, rfl, rfl, rfl, rfl⟩
      case round =>
        obtain ⟨j, X, hkj, hj10, rfl, rfl, rfl, rfl, rfl, hd⟩ := hrel
        have hcell : k + j < n → w3.cell? ⟨bb, off + (k + j), none⟩ = some (.int .u8 (zs.getD (k + j) 0)) := fun h => by rw [← Go.WideShapes.add_plain]; exact (HB.out.below hBB).cell _ rfl (k + j) h
        have hrk := HB.out.range (k + j)
        have hmask := mask127 hrk.1 hrk.2
        have HD : Hid ((x, nn, 2) = dec X j ((zs.drop k).drop j)) := HDD.out.trans hd
        clear hd
        have hll : zs.length = n := HL.out
        by_cases hlt : k + j < n
        · have hlt' : (k : Int) + j < n := by omega
          have hlz : k + j < zs.length := by omega
          clear hll
          rcases (show j = 10 ∨ (j = 9 ∧ zs[k + j]?.getD 0 < 128 ∧ 1 < zs[k + j]?.getD 0) ∨ (j = 9 ∧ zs[k + j]?.getD 0 ≤ 1) ∨ (j < 9 ∧ zs[k + j]?.getD 0 < 128) ∨ (j < 10 ∧ 128 ≤ zs[k + j]?.getD 0) by omega) with rfl | ⟨rfl, hw1, hw2⟩ | ⟨rfl, hw1⟩ | ⟨hw0, hw1⟩ | ⟨hw0, hw1⟩
          · exact absurd (HD.out.trans (way1 X hlz)) (by simp)
          · exact absurd (HD.out.trans (way2 X hlz hw1 hw2)) (by simp)
          · have e3 := HD.out.trans (way3 X hlz hrk.1 hw1)
            simp only [Prod.mk.injEq] at e3
            obtain ⟨e3, rfl, _⟩ := e3
            have hU := e3.symm
            clear HD hmask hlz e3
            have hone := and_one_u64 x hx0 hx1
            have hnot := not_go x hx0 hx1
            have hsg : IntKind.i64.signed = true := rfl
            rcases Int.emod_two_eq x with hm | hm
            · have hzz : zz x = x / 2 := by unfold zz; simp [hm]
              have hr := HR.out; rw [hzz] at hr; obtain ⟨hr0, hr1⟩ := hr
              clear HR
              go_wp2_with fail
              go_ret
              exact ⟨rfl, hBB⟩
            · have hzz : zz x = -1 - x / 2 := by unfold zz; simp [hm]
              have hr := HR.out; rw [hzz] at hr; obtain ⟨hr0, hr1⟩ := hr
              clear HR
              go_wp2_with fail
              go_ret
              exact ⟨rfl, hBB⟩
          · have e3 := HD.out.trans (way4 X hlz hw0 hw1)
            simp only [Prod.mk.injEq] at e3
            obtain ⟨e3, rfl, _⟩ := e3
            have hU := e3.symm
            clear HD hmask hlz e3
            have hone := and_one_u64 x hx0 hx1
            have hnot := not_go x hx0 hx1
            have hsg : IntKind.i64.signed = true := rfl
            rcases Int.emod_two_eq x with hm | hm
            · have hzz : zz x = x / 2 := by unfold zz; simp [hm]
              have hr := HR.out; rw [hzz] at hr; obtain ⟨hr0, hr1⟩ := hr
              clear HR
              go_wp2_with fail
              go_ret
              exact ⟨rfl, hBB⟩
            · have hzz : zz x = -1 - x / 2 := by unfold zz; simp [hm]
              have hr := HR.out; rw [hzz] at hr; obtain ⟨hr0, hr1⟩ := hr
              clear HR
              go_wp2_with fail
              go_ret
              exact ⟨rfl, hBB⟩
          · have HLZ : Hid (k + j < zs.length) := hlz
            clear hlz
            go_wp2_with fail
            go_round
            case rel => exact ⟨j + 1, _, by omega, by omega, rfl, rfl, by go_num, rfl, by go_num, HDD.out.symm.trans (HD.out.trans (way5 X HLZ.out hw0 hw1))⟩
            case measure => simp [intOf]; omega
        · have hlt' : ¬ (k : Int) + j < n := by omega
          have hlz : zs.length ≤ k + j := by omega
          exact absurd (HD.out.trans (way6 X hlz)) (by simp)
    · obtain rfl : st = 2 := hst
      obtain ⟨hA, hc0, hc1, hc2⟩ := after_moved hB3
      have hBB : Below w.heap.size w w3 := hB1.trans (hA.mono hB1.size)
      have hG0 := (hBB.cell (p := ⟨0, 0, none⟩) (show 0 < w.heap.size by omega)).trans HG0.out
      have hG1 := (hBB.cell (p := ⟨1, 0, none⟩) h2).trans HG1.out
      have HR : Hid (zz x < -2147483648 ∨ 2147483647 < zz x) := hr
      clear hr
      clear hB3
      go_wp2_with (go_at_call 6; refine (equal_any _ _ zs _ ((HB.out.below hBB).convert) (HV.out _ hA)).mono ?_; rintro e w' ⟨rfl, hw⟩; cases hw)
      go_loop [17, 18, 19, 20, 21] (fun st u s nn i => ∃ (j : Nat) (X : Int), k + j ≤ n ∧ j ≤ 10 ∧ st = .int .i64 0 ∧ u = .int .u64 X ∧ s = .int .u64 (7 * j : Nat) ∧ nn = .int .i64 0 ∧ i = .int .i64 j ∧ dec 0 0 (zs.drop k) = dec X j ((zs.drop k).drop j)) (fun _ _ _ _ i => n - k - (intOf i).toNat)
      case atStart => exact ⟨0, 0, by omega, by omega, rfl, rfl, rfl, rfl, rfl, rfl⟩
      case round =>
        obtain ⟨j, X, hkj, hj10, rfl, rfl, rfl, rfl, rfl, hd⟩ := hrel
        have hcell : k + j < n → w3.cell? ⟨bb, off + (k + j), none⟩ = some (.int .u8 (zs.getD (k + j) 0)) := fun h => by rw [← Go.WideShapes.add_plain]; exact (HB.out.below hBB).cell _ rfl (k + j) h
        have hrk := HB.out.range (k + j)
        have hmask := mask127 hrk.1 hrk.2
        have HD : Hid ((x, nn, 2) = dec X j ((zs.drop k).drop j)) := HDD.out.trans hd
        clear hd
        have hll : zs.length = n := HL.out
        by_cases hlt : k + j < n
        · have hlt' : (k : Int) + j < n := by omega
          have hlz : k + j < zs.length := by omega
          clear hll
          rcases (show j = 10 ∨ (j = 9 ∧ zs[k + j]?.getD 0 < 128 ∧ 1 < zs[k + j]?.getD 0) ∨ (j = 9 ∧ zs[k + j]?.getD 0 ≤ 1) ∨ (j < 9 ∧ zs[k + j]?.getD 0 < 128) ∨ (j < 10 ∧ 128 ≤ zs[k + j]?.getD 0) by omega) with rfl | ⟨rfl, hw1, hw2⟩ | ⟨rfl, hw1⟩ | ⟨hw0, hw1⟩ | ⟨hw0, hw1⟩
          · exact absurd (HD.out.trans (way1 X hlz)) (by simp)
          · exact absurd (HD.out.trans (way2 X hlz hw1 hw2)) (by simp)
          · have e3 := HD.out.trans (way3 X hlz hrk.1 hw1)
            simp only [Prod.mk.injEq] at e3
            obtain ⟨e3, rfl, _⟩ := e3
            have hU := e3.symm
            clear HD hmask hlz e3
            have hone := and_one_u64 x hx0 hx1
            have hnot := not_go x hx0 hx1
            have hsg : IntKind.i64.signed = true := rfl
            rcases Int.emod_two_eq x with hm | hm
            · have hzz : zz x = x / 2 := by unfold zz; simp [hm]
              have hr := HR.out; rw [hzz] at hr
              clear HR
              have hr := (show 2147483647 < x / 2 by omega)
              go_wp2_with (go_at_call 7; refine (cerr_any g k u y _ _ hy0 hy1).mono ?_; rintro e w' ⟨rfl, hw⟩; cases hw)
              go_ret
              exact ⟨rfl, hBB⟩
            · have hzz : zz x = -1 - x / 2 := by unfold zz; simp [hm]
              have hr := HR.out; rw [hzz] at hr
              clear HR
              have hr := (show -1 - x / 2 < -2147483648 by omega)
              go_wp2_with (go_at_call 7; refine (cerr_any g k u y _ _ hy0 hy1).mono ?_; rintro e w' ⟨rfl, hw⟩; cases hw)
              go_ret
              exact ⟨rfl, hBB⟩
          · have e3 := HD.out.trans (way4 X hlz hw0 hw1)
            simp only [Prod.mk.injEq] at e3
            obtain ⟨e3, rfl, _⟩ := e3
            have hU := e3.symm
            clear HD hmask hlz e3
            have hone := and_one_u64 x hx0 hx1
            have hnot := not_go x hx0 hx1
            have hsg : IntKind.i64.signed = true := rfl
            rcases Int.emod_two_eq x with hm | hm
            · have hzz : zz x = x / 2 := by unfold zz; simp [hm]
              have hr := HR.out; rw [hzz] at hr
              clear HR
              have hr := (show 2147483647 < x / 2 by omega)
              go_wp2_with (go_at_call 7; refine (cerr_any g k u y _ _ hy0 hy1).mono ?_; rintro e w' ⟨rfl, hw⟩; cases hw)
              go_ret
              exact ⟨rfl, hBB⟩
            · have hzz : zz x = -1 - x / 2 := by unfold zz; simp [hm]
              have hr := HR.out; rw [hzz] at hr
              clear HR
              have hr := (show -1 - x / 2 < -2147483648 by omega)
              go_wp2_with (go_at_call 7; refine (cerr_any g k u y _ _ hy0 hy1).mono ?_; rintro e w' ⟨rfl, hw⟩; cases hw)
              go_ret
              exact ⟨rfl, hBB⟩
          · have HLZ : Hid (k + j < zs.length) := hlz
            clear hlz
            go_wp2_with fail
            go_round
            case rel => exact ⟨j + 1, _, by omega, by omega, rfl, rfl, by go_num, rfl, by go_num, HDD.out.symm.trans (HD.out.trans (way5 X HLZ.out hw0 hw1))⟩
            case measure => simp [intOf]; omega
        · have hlt' : ¬ (k : Int) + j < n := by omega
          have hlz : zs.length ≤ k + j := by omega
          exact absurd (HD.out.trans (way6 X hlz)) (by simp)
end Go.Proofs.YbulkexmwwFmt
