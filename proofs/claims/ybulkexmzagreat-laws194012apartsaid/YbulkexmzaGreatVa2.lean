/-
  VarAccesses (18), where no instruction accesses a variable.
-/
import Derived.Test.YbulkexmzaGreatLm
namespace Go.Proofs.YbulkexmzaGreat
open Go.RowKit
attribute [local go_sem] fup_at

/-- The blocks' instructions: none accesses a variable; no block ends in an If. -/
structure Cfi (w : World) (fb n : Nat) (bk : Nat → Nat) (m : Nat → Nat) (ins : Nat → Nat → Nat) (kd : Nat → Nat) : Prop where
  res : w.cell? ⟨fb, 8, none⟩ = some (.slice none 0 0)
  li : ∀ i, i < n → ∃ ia c, w.cell? ⟨bk i, 1, none⟩ = some (.slice ia (m i) c) ∧ ∀ j, j < m i → ∃ ib io, ia = some ⟨ib, io, none⟩ ∧ w.cell? ⟨ib, io + j, none⟩ = some (.pointer (some ⟨ins i j, 0, none⟩))
  kind : ∀ i, i < n → w.cell? ⟨bk i, 2, none⟩ = some (.int .u8 (kd i : Nat)) ∧ kd i ≠ 1
  z1 : ∀ i j, i < n → j < m i → w.cell? ⟨ins i j, 1, none⟩ = some (.pointer none)
  z2 : ∀ i j, i < n → j < m i → w.cell? ⟨ins i j, 2, none⟩ = some (.slice none 0 0)
  z3 : ∀ i j, i < n → j < m i → w.cell? ⟨ins i j, 3, none⟩ = some (.slice none 0 0)
  z6 : ∀ i j, i < n → j < m i → w.cell? ⟨ins i j, 6, none⟩ = some (.pointer none)
  lim : ∀ i, i < n → m i ≤ 100000000
theorem Cfi.since {w w' : World} {fb n : Nat} {bk m kd : Nat → Nat} {ins : Nat → Nat → Nat} (h : Cfi w fb n bk m ins kd) (hs : w.Since w.heap.size w') : Cfi w' fb n bk m ins kd := by
  refine ⟨old_cell hs h.res, fun i hi => ?_, fun i hi => ⟨old_cell hs (h.kind i hi).1, (h.kind i hi).2⟩, fun i j hi hj => old_cell hs (h.z1 i j hi hj), fun i j hi hj => old_cell hs (h.z2 i j hi hj), fun i j hi hj => old_cell hs (h.z3 i j hi hj), fun i j hi hj => old_cell hs (h.z6 i j hi hj), h.lim⟩
  obtain ⟨ia, c, h1, h2⟩ := h.li i hi
  refine ⟨ia, c, old_cell hs h1, fun j hj => ?_⟩
  obtain ⟨ib, io, h3, h4⟩ := h2 j hj
  exact ⟨ib, io, h3, old_cell hs h4⟩

set_option maxHeartbeats 1000000 in
theorem defs35 {w : World} {x : Nat} (k1 : w.cell? ⟨x, 1, none⟩ = some (.pointer none)) (k3 : w.cell? ⟨x, 3, none⟩ = some (.slice none 0 0)) :
    Calls Ybaz.prog 35 #[.pointer (some ⟨x, 0, none⟩)] w fun e w' => e = .returned (.slice none 0 0) ∧ w' = w := by
  go_enter Ybaz.func35, Ybaz.ntmps35
  go_wp2
  go_ret
  exact ⟨rfl, rfl⟩

theorem run_mk75 (n : Nat) (hn : n ≤ 100000) : ∃ X : Array Value, ∀ w, (Instr.makeSlice 75 (.int .i64 0) (.int .i64 (n : Nat))).run Ybaz.prog w = .ok (.slice (some ⟨w.heap.size, 0, none⟩) 0 n) (w.alloc (.cells X 88)) := by
  have hi : ∃ i z, Ybaz.prog.info? 88 = some i ∧ i.zero = some z ∧ i.bytes ≤ 100 := by
    have h : (match Ybaz.prog.info? 88 with
      | some i => i.zero.isSome && Nat.ble i.bytes 100
      | none => false) = true := by kernel_rfl
    cases h1 : Ybaz.prog.info? 88 with
    | none => rw [h1] at h; cases h
    | some i =>
      rw [h1] at h
      simp only [Bool.and_eq_true, Nat.ble_eq] at h
      obtain ⟨z, hz⟩ := Option.isSome_iff_exists.1 h.1
      exact ⟨i, z, rfl, hz, h.2⟩
  obtain ⟨i, z, hi, hz, hb⟩ := hi
  refine ⟨madeCells z.cells ((n : Int).toNat * i.size), fun w => ?_⟩
  have hb2 : i.bytes * n ≤ 100 * 100000 := Nat.mul_le_mul hb hn
  have hb' : (i.bytes : Int) * (n : Int) ≤ 281474976710656 := by
    have h : ((i.bytes * n : Nat) : Int) ≤ 281474976710656 := by omega
    rwa [Int.natCast_mul] at h
  exact run_make (P := Ybaz.prog) w 75 88 i z Ybaz.underlying75 hi hz .i64 .i64 0 (n : Int) (by omega) (by omega) hb' (by omega)

set_option maxHeartbeats 4000000 in
set_option maxRecDepth 100000 in
theorem v12t {F : (Nat → Value) → Act} (hF : Fr 167 F) {w0 w : World} {n fb : Nat} {f : Nat → Value} {bk m kd : Nat → Nat} {ins : Nat → Nat → Nat} {sc : Nat → Option Nat} {R : Ending → World → Prop}
    (hC : Cfg w0 fb n bk sc) (hI : Cfi w0 fb n bk m ins kd) (hn : n ≤ 100000) (hs : w0.Since w0.heap.size w) (h0 : f 0 = .pointer (some ⟨fb, 0, none⟩)) (h3 : f 3 = .int .i64 (n : Nat))
    (hR : ∀ aa ac w', w0.Since w0.heap.size w' → R (.returned (.slice aa 0 ac)) w') :
    ((Ybaz.f18.body.bind (codeAt 12)).getD .skip).wp Ybaz.prog (bodyPost Ybaz.prog Ybaz.f18 R) (F f) w := by
  conv => arg 2; whnf
  have hget := hF.get
  have hmk := hF.up
  have HR : Hid (∀ aa ac w', w0.Since w0.heap.size w' → R (.returned (.slice aa 0 ac)) w') := hR
  obtain ⟨bb, bo, bc, kB0, hblk⟩ := hC.blocks
  obtain ⟨X, hmake⟩ := run_mk75 n hn
  clear hR
  refine wp_seq_hid (fun K HK => ?_)
  go_wp2
  refine HK.out _ _ ?_
  clear HK hmake
  have hs1 : w0.Since w0.heap.size (w.alloc (.cells X 88)) := hs.alloc hs.size _
  obtain ⟨ga, hga⟩ : ∃ a, a = w.heap.size := ⟨_, rfl⟩
  rw [← hga]
  clear hga
  generalize w.alloc (.cells X 88) = w1 at hs1 ⊢
  have kB := old_cell hs1 kB0
  have HS1 : Hid (w0.Since w0.heap.size w1) := hs1
  clear hs hs1 kB0
  refine wp_seq_hid (fun K HK => ?_)
  refine wp_seq_hid (fun K2 HK2 => ?_)
  go_wp2
  refine HK2.out _ _ ?_
  clear HK2 kB
  refine wp_block ?_
  refine wp_loop_ghost_k (fun g a w => ∃ f, a = F f ∧ ∃ i, g + i = n ∧ w0.Since w0.heap.size w ∧ f 0 = .pointer (some ⟨fb, 0, none⟩) ∧ f 8 = .slice (some ⟨ga, 0, none⟩) 0 n ∧ f 64 = .slice (some ⟨bb, bo, none⟩) n bc ∧ f 65 = .int .i64 (n : Nat) ∧ f 66 = .int .i64 (i : Nat)) n ⟨_, rfl, 0, rfl, HS1.out, by simp [fup_at, h0], by simp [fup_at], by simp [fup_at], by simp [fup_at], by simp [fup_at]⟩ ?_
  clear HS1 h0 h3 f
  rintro g _ w1 ⟨f, rfl, i, hg, hs, h0, h8, h64, h65, h66⟩ J K1 hJ hK1
  have HJ : Hid _ := hJ
  have HK1 : Hid (∀ a' w', Handed J g a' w' → K1 a' w') := hK1
  have HS : Hid (w0.Since w0.heap.size w1) := hs
  clear hJ hK1 hs
  refine wp_seq_hid (fun Ka HKa => ?_)
  go_wp2
  refine HKa.out _ _ ?_
  clear HKa
  refine wp_seq_hid (fun Kb HKb => ?_)
  refine hF.cond (by omega) rfl (fun hh => ?_) (fun hh => ?_)
  · have hi : i < n := by simpa using hh
    have hiz : (i : Int) < (n : Int) := by omega
    clear hh
    go_wp2
    refine HKb.out _ _ ?_
    clear HKb
    have kblk := old_cell HS.out (hblk i hi)
    obtain ⟨ia, ic, ki0, hij⟩ := hI.li i hi
    have ki := old_cell HS.out ki0
    refine wp_seq_hid (fun K2 HK2 => ?_)
    refine wp_block ?_
    refine wp_seq_hid (fun K3 HK3 => ?_)
    go_wp2
    refine HK3.out _ _ ?_
    clear HK3
    refine wp_seq_hid (fun K3 HK3 => ?_)
    refine wp_seq_hid (fun K4 HK4 => ?_)
    obtain ⟨mi, hmi⟩ : ∃ mi, mi = m i := ⟨_, rfl⟩
    have hlim : mi ≤ 100000000 := by rw [hmi]; exact hI.lim i hi
    rw [← hmi] at ki hij ki0
    have HMI : Hid (mi = m i) := hmi
    clear hmi
    go_wp2
    refine HK4.out _ _ ?_
    clear HK4 ki kblk
    refine wp_block ?_
    refine wp_loop_ghost_k (fun g a w => ∃ f, a = F f ∧ ∃ j, g + j = mi ∧ w0.Since w0.heap.size w ∧ f 0 = .pointer (some ⟨fb, 0, none⟩) ∧ f 8 = .slice (some ⟨ga, 0, none⟩) 0 n ∧ f 64 = .slice (some ⟨bb, bo, none⟩) n bc ∧ f 65 = .int .i64 (n : Nat) ∧ f 66 = .int .i64 (i : Nat) ∧ f 10 = .pointer (some ⟨bk i, 0, none⟩) ∧ f 73 = .slice ia mi ic ∧ f 74 = .int .i64 (mi : Nat) ∧ f 75 = .int .i64 (j : Nat)) mi ⟨_, rfl, 0, rfl, HS.out, by simp [fup_at, h0], by simp [fup_at, h8], by simp [fup_at, h64], by simp [fup_at, h65], by simp [fup_at, h66], by simp [fup_at], by simp [fup_at], by simp [fup_at], by simp [fup_at]⟩ ?_
    clear HS h0 h8 h64 h65 h66 f
    rintro g2 _ w2 ⟨f, rfl, j, hg2, hs, h0, h8, h64, h65, h66, h10, h73, h74, h75⟩ J2 K5 hJ2 hK5
    have HJ2 : Hid _ := hJ2
    have HK5 : Hid (∀ a' w', Handed J2 g2 a' w' → K5 a' w') := hK5
    have HS : Hid (w0.Since w0.heap.size w2) := hs
    clear hJ2 hK5 hs
    refine wp_seq_hid (fun Ka HKa => ?_)
    go_wp2
    refine HKa.out _ _ ?_
    clear HKa
    refine wp_seq_hid (fun Kb HKb => ?_)
    refine hF.cond (by omega) rfl (fun hh => ?_) (fun hh => ?_)
    · have hj : j < mi := by simpa using hh
      have hjz : (j : Int) < (mi : Int) := by omega
      clear hh
      go_wp2
      refine HKb.out _ _ ?_
      clear HKb
      obtain ⟨ib, io, rfl, kin0⟩ := hij j hj
      have kin := old_cell HS.out kin0
      have hj' : j < m i := by rw [← HMI.out]; exact hj
      have k1 := old_cell HS.out (hI.z1 i j hi hj')
      have k2 := old_cell HS.out (hI.z2 i j hi hj')
      have k3 := old_cell HS.out (hI.z3 i j hi hj')
      have HD : Hid _ := defs35 (w := w2) (x := ins i j) k1 k3
      refine wp_seq_hid (fun K6 HK6 => ?_)
      refine wp_block ?_
      refine wp_seq_hid (fun K7 HK7 => ?_)
      go_wp2
      refine HK7.out _ _ ?_
      clear HK7 kin kin0
      refine wp_seq_hid (fun K7 HK7 => ?_)
      refine wp_seq_hid (fun K8 HK8 => ?_)
      go_wp2
      refine HK8.out _ _ ?_
      clear HK8
      refine wp_block ?_
      refine wp_loop_once ?_
      refine wp_seq_hid (fun K8 HK8 => ?_)
      go_wp2
      refine HK8.out _ _ ?_
      clear HK8
      refine wp_seq_hid (fun K8 HK8 => ?_)
      refine hF.cond (by omega) rfl (fun h => by cases h) (fun h => ?_)
      clear HK8 h
      go_wp2
      refine HK7.out _ _ ?_
      clear HK7
      refine wp_seq_hid (fun K8 HK8 => ?_)
      go_wp2_with (go_at_call 35; refine Calls.mono HD.out ?_; rintro e w9 ⟨rfl, rfl⟩; dsimp only)
      refine HK8.out _ _ ?_
      clear HK8 HD k1 k2 k3
      refine wp_block ?_
      refine wp_loop_once ?_
      refine wp_seq_hid (fun K8 HK8 => ?_)
      go_wp2
      refine HK8.out _ _ ?_
      clear HK8
      refine wp_seq_hid (fun K8 HK8 => ?_)
      refine hF.cond (by omega) rfl (fun h => by cases h) (fun h => ?_)
      clear HK8 h
      go_wp2
      refine HK6.out _ _ ?_
      clear HK6
      go_wp2
      exact HK5.out _ _ ⟨g2 - 1, by omega, HJ2.out _ _ _ ⟨_, rfl, j + 1, by omega, HS.out, by simp [fup_at, h0], by simp [fup_at, h8], by simp [fup_at, h64], by simp [fup_at, h65], by simp [fup_at, h66], by simp [fup_at, h10], by simp [fup_at, h73], by simp [fup_at, h74], by simp [fup_at]⟩⟩
    · clear hh HKb
      go_wp2
      refine HK3.out _ _ ?_
      clear HK3
      have ki := old_cell HS.out ki0
      obtain ⟨kk0, hk1⟩ := hI.kind i hi
      have kk := old_cell HS.out kk0
      have kr := old_cell HS.out hI.res
      have HEND : Hid (∀ y, y 0 = .pointer (some ⟨fb, 0, none⟩) → y 8 = .slice (some ⟨ga, 0, none⟩) 0 n → y 64 = .slice (some ⟨bb, bo, none⟩) n bc → y 65 = .int .i64 (n : Nat) → y 66 = .int .i64 (i : Nat) → K2 (F y) w2) := ?hend
      case hend =>
        clear h0 h8 h64 h65 h66 ki kk kr
        intro y y0 y8 y64 y65 y66
        refine HK2.out _ _ ?_
        clear HK2
        go_wp2
        exact HK1.out _ _ ⟨g - 1, by omega, HJ.out _ _ _ ⟨_, rfl, i + 1, by omega, HS.out, by simp [fup_at, y0], by simp [fup_at, y8], by simp [fup_at, y64], by simp [fup_at, y65], by simp [fup_at]⟩⟩
      have hne : ¬ ((kd i : Nat) : Int) = 1 := by omega
      have hd1 : decide (((kd i : Nat) : Int) = 1) = false := by simpa using hne
      have hd1' : decide (kd i = 1) = false := by simpa using hk1
      refine wp_seq_hid (fun K3 HK3 => ?_)
      go_wp2
      refine HK3.out _ _ ?_
      clear HK3
      refine wp_seq_hid (fun K3 HK3 => ?_)
      go_wp2
      refine HK3.out _ _ ?_
      clear HK3
      refine wp_block ?_
      refine wp_seq_hid (fun K3 HK3 => ?_)
      go_wp2
      refine HK3.out _ _ ?_
      clear HK3
      refine hF.cond (by omega) rfl (fun h => absurd (of_decide_eq_true h) hne) (fun h => ?_)
      clear h
      refine wp_seq_hid (fun K3 HK3 => ?_)
      go_wp2
      refine HK3.out _ _ ?_
      clear HK3
      refine hF.cond (by omega) rfl (fun h => ?_) (fun h => ?_)
      · clear h
        refine wp_seq_hid (fun K3 HK3 => ?_)
        go_wp2
        refine HK3.out _ _ ?_
        clear HK3
        refine wp_block ?_
        refine wp_loop_once ?_
        refine wp_seq_hid (fun K8 HK8 => ?_)
        go_wp2
        refine HK8.out _ _ ?_
        clear HK8
        refine wp_seq_hid (fun K8 HK8 => ?_)
        refine hF.cond (by omega) rfl (fun h => by cases h) (fun h => ?_)
        clear HK8 h
        go_wp2
        exact HEND.out _ (by simp [fup_at, h0]) (by simp [fup_at, h8]) (by simp [fup_at, h64]) (by simp [fup_at, h65]) (by simp [fup_at, h66])
      · clear h
        go_wp2
        exact HEND.out _ (by simp [fup_at, h0]) (by simp [fup_at, h8]) (by simp [fup_at, h64]) (by simp [fup_at, h65]) (by simp [fup_at, h66])
  · clear hh HKb
    go_wp2
    refine HK.out _ _ ?_
    clear HK HK1 HJ
    go_wp2
    exact hF.ret (t := 2) rfl (by omega) (by simp [fup_at]) (HR.out (some ⟨ga, 0, none⟩) n _ HS.out)

set_option maxHeartbeats 4000000 in
set_option maxRecDepth 100000 in
theorem v0t {F : (Nat → Value) → Act} (hF : Fr 167 F) {w0 : World} {n fb : Nat} {f : Nat → Value} {bk m kd : Nat → Nat} {ins : Nat → Nat → Nat} {sc : Nat → Option Nat} {R : Ending → World → Prop}
    (hC : Cfg w0 fb n bk sc) (hI : Cfi w0 fb n bk m ins kd) (hn : n ≤ 100000) (h0 : f 0 = .pointer (some ⟨fb, 0, none⟩))
    (hR : ∀ aa ac w', w0.Since w0.heap.size w' → R (.returned (.slice aa 0 ac)) w') :
    (Ybaz.f18.body.getD .skip).wp Ybaz.prog (bodyPost Ybaz.prog Ybaz.f18 R) (F f) w0 := by
  conv => arg 2; whnf
  have hget := hF.get
  have hmk := hF.up
  have HR : Hid (∀ aa ac w', w0.Since w0.heap.size w' → R (.returned (.slice aa 0 ac)) w') := hR
  obtain ⟨bb, bo, bc, kB0, hblk⟩ := hC.blocks
  clear hR
  refine wp_seq_hid (fun K HK => ?_)
  go_wp2
  refine HK.out _ _ ?_
  clear HK
  refine wp_seq_hid (fun K HK => ?_)
  go_wp2
  refine HK.out _ _ ?_
  clear HK
  refine wp_seq_hid (fun K HK => ?_)
  refine wp_seq_hid (fun K2 HK2 => ?_)
  go_wp2
  refine HK2.out _ _ ?_
  clear HK2
  have hs0 : w0.Since w0.heap.size w0 := .refl _ _
  have HKB : Hid (w0.cell? ⟨fb, 11, none⟩ = some (.slice (some ⟨bb, bo, none⟩) n bc)) := kB0
  clear kB0
  refine wp_block ?_
  refine wp_loop_ghost_k (fun g a w => ∃ f, a = F f ∧ ∃ i, g + i = n ∧ w0.Since w0.heap.size w ∧ f 0 = .pointer (some ⟨fb, 0, none⟩) ∧ f 3 = .int .i64 (i : Nat) ∧ f 23 = .slice (some ⟨bb, bo, none⟩) n bc ∧ f 24 = .int .i64 (n : Nat) ∧ f 25 = .int .i64 (i : Nat)) n ⟨_, rfl, 0, rfl, hs0, by simp [fup_at, h0], by simp [fup_at], by simp [fup_at], by simp [fup_at], by simp [fup_at]⟩ ?_
  clear hs0 h0 f
  rintro g _ w1 ⟨f, rfl, i, hg, hs, h0, h3, h23, h24, h25⟩ J K1 hJ hK1
  have HJ : Hid _ := hJ
  have HK1 : Hid (∀ a' w', Handed J g a' w' → K1 a' w') := hK1
  have HS : Hid (w0.Since w0.heap.size w1) := hs
  clear hJ hK1 hs
  refine wp_seq_hid (fun Ka HKa => ?_)
  go_wp2
  refine HKa.out _ _ ?_
  clear HKa
  refine wp_seq_hid (fun Kb HKb => ?_)
  refine hF.cond (by omega) rfl (fun hh => ?_) (fun hh => ?_)
  · have hi : i < n := by simpa using hh
    have hiz : (i : Int) < (n : Int) := by omega
    clear hh
    go_wp2
    refine HKb.out _ _ ?_
    clear HKb
    have kblk := old_cell HS.out (hblk i hi)
    obtain ⟨ia, ic, ki0, hij⟩ := hI.li i hi
    have ki := old_cell HS.out ki0
    refine wp_seq_hid (fun K2 HK2 => ?_)
    refine wp_block ?_
    refine wp_seq_hid (fun K3 HK3 => ?_)
    go_wp2
    refine HK3.out _ _ ?_
    clear HK3
    refine wp_seq_hid (fun K3 HK3 => ?_)
    refine wp_seq_hid (fun K4 HK4 => ?_)
    obtain ⟨mi, hmi⟩ : ∃ mi, mi = m i := ⟨_, rfl⟩
    have hlim : mi ≤ 100000000 := by rw [hmi]; exact hI.lim i hi
    rw [← hmi] at ki hij
    have HMI : Hid (mi = m i) := hmi
    clear hmi ki0
    go_wp2
    refine HK4.out _ _ ?_
    clear HK4 ki kblk
    refine wp_block ?_
    refine wp_loop_ghost_k (fun g a w => ∃ f, a = F f ∧ ∃ j, g + j = mi ∧ w0.Since w0.heap.size w ∧ f 0 = .pointer (some ⟨fb, 0, none⟩) ∧ f 3 = .int .i64 (i : Nat) ∧ f 23 = .slice (some ⟨bb, bo, none⟩) n bc ∧ f 24 = .int .i64 (n : Nat) ∧ f 25 = .int .i64 (i : Nat) ∧ f 32 = .slice ia mi ic ∧ f 33 = .int .i64 (mi : Nat) ∧ f 34 = .int .i64 (j : Nat)) mi ⟨_, rfl, 0, rfl, HS.out, by simp [fup_at, h0], by simp [fup_at, h3], by simp [fup_at, h23], by simp [fup_at, h24], by simp [fup_at, h25], by simp [fup_at], by simp [fup_at], by simp [fup_at]⟩ ?_
    clear HS h0 h3 h23 h24 h25 f
    rintro g2 _ w2 ⟨f, rfl, j, hg2, hs, h0, h3, h23, h24, h25, h32, h33, h34⟩ J2 K5 hJ2 hK5
    have HJ2 : Hid _ := hJ2
    have HK5 : Hid (∀ a' w', Handed J2 g2 a' w' → K5 a' w') := hK5
    have HS : Hid (w0.Since w0.heap.size w2) := hs
    clear hJ2 hK5 hs
    refine wp_seq_hid (fun Ka HKa => ?_)
    go_wp2
    refine HKa.out _ _ ?_
    clear HKa
    refine wp_seq_hid (fun Kb HKb => ?_)
    refine hF.cond (by omega) rfl (fun hh => ?_) (fun hh => ?_)
    · have hj : j < mi := by simpa using hh
      have hjz : (j : Int) < (mi : Int) := by omega
      clear hh
      go_wp2
      refine HKb.out _ _ ?_
      clear HKb
      obtain ⟨ib, io, rfl, kin0⟩ := hij j hj
      have kin := old_cell HS.out kin0
      have hj' : j < m i := by rw [← HMI.out]; exact hj
      have k1 := old_cell HS.out (hI.z1 i j hi hj')
      have k2 := old_cell HS.out (hI.z2 i j hi hj')
      have k3 := old_cell HS.out (hI.z3 i j hi hj')
      refine wp_seq_hid (fun K6 HK6 => ?_)
      refine wp_block ?_
      refine wp_seq_hid (fun K7 HK7 => ?_)
      go_wp2
      refine HK7.out _ _ ?_
      clear HK7 kin kin0
      have hw1 : IntKind.i64.wrap ((0 : Int) + 0) = 0 := rfl
      have hw2 : IntKind.i64.wrap ((i : Int) + 0) = (i : Int) := by rw [IntKind.wrap_i64]; omega
      have hw3 : IntKind.i64.wrap (i : Int) = (i : Int) := by rw [IntKind.wrap_i64]; omega
      have HD : Hid _ := defs35 (w := w2.drew) (x := ins i j) k1 k3
      refine wp_region_still_lit (by kernel_rfl) (by kernel_rfl) ?_
      iterate 7 still_step
      still_call HD.out
      iterate 4 still_step
      refine wpStill_nil ?_
      go_wp2
      refine HK6.out _ _ ?_
      clear HK6 HD k1 k2 k3
      go_wp2
      exact HK5.out _ _ ⟨g2 - 1, by omega, HJ2.out _ _ _ ⟨_, rfl, j + 1, by omega, HS.out.drew, by simp [fup_at, h0], by simp [fup_at], by simp [fup_at, h23], by simp [fup_at, h24], by simp [fup_at, h25], by simp [fup_at, h32], by simp [fup_at, h33], by simp [fup_at]⟩⟩
    · clear hh HKb
      go_wp2
      refine HK3.out _ _ ?_
      clear HK3
      have kr := old_cell HS.out hI.res
      go_wp2
      refine HK2.out _ _ ?_
      clear HK2 kr
      go_wp2
      exact HK1.out _ _ ⟨g - 1, by omega, HJ.out _ _ _ ⟨_, rfl, i + 1, by omega, HS.out, by simp [fup_at, h0], by simp [fup_at], by simp [fup_at, h23], by simp [fup_at, h24], by simp [fup_at]⟩⟩
  · have hi : i = n := by
      have : ¬ i < n := by simpa using hh
      omega
    clear hh HKb
    subst hi
    go_wp2
    refine HK.out _ _ ?_
    clear HK HK1 HJ
    exact v12t hF hC hI hn HS.out (by simp [fup_at, h0]) (by simp [fup_at, h3]) HR.out

set_option maxRecDepth 100000 in
theorem va_any {w0 : World} {n fb : Nat} {bk m kd : Nat → Nat} {ins : Nat → Nat → Nat} {sc : Nat → Option Nat} (hC : Cfg w0 fb n bk sc) (hI : Cfi w0 fb n bk m ins kd) (hn : n ≤ 100000) :
    Calls Ybaz.prog 18 #[.pointer (some ⟨fb, 0, none⟩)] w0 fun e w' => ∃ aa ac, e = .returned (.slice aa 0 ac) ∧ w0.Since w0.heap.size w' := by
  refine calls_of_wp Ybaz.func18 rfl ?_
  rw [(frm_fr 167).of (Act.mk _ _) (by simp [Ybaz.ntmps18]) rfl]
  exact v0t (frm_fr 167) hC hI hn (by simp) (fun aa ac w' h => ⟨aa, ac, rfl, h⟩)
end Go.Proofs.YbulkexmzaGreat
