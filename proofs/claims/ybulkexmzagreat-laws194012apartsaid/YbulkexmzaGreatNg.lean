/-
  THE LAW of newSinker (10), the rest.
-/
import Derived.Test.YbulkexmzaGreatNf
namespace Go.Proofs.YbulkexmzaGreat
open Go.RowKit
attribute [local go_sem] fup_at

set_option maxHeartbeats 4000000 in
set_option maxRecDepth 100000 in
theorem n15t {F : (Nat → Value) → Act} (hF : Fr 233 F) {w0 w : World} {n fb sp ga : Nat} {D f : Nat → Value} {bk m kd : Nat → Nat} {ins : Nat → Nat → Nat} {sc : Nat → Option Nat} {R : Ending → World → Prop}
    (hC : Cfg w0 fb n bk sc) (hI : Cfi w0 fb n bk m ins kd) (hk9 : w0.cell? ⟨fb, 9, none⟩ = some (.slice none 0 0)) (hk10 : w0.cell? ⟨fb, 10, none⟩ = some (.slice none 0 0)) (hn : n ≤ 100000) (hK : Nk w0 w sp ga n D) (h0 : f 0 = .pointer (some ⟨fb, 0, none⟩)) (h8 : f 8 = .pointer (some ⟨sp, 0, none⟩))
    (hR : ∀ w', SinkOk w0 w' sp → R (.returned (.pointer (some ⟨sp, 0, none⟩))) w') :
    ((Ybaz.f10.body.bind (codeAt 15)).getD .skip).wp Ybaz.prog (bodyPost Ybaz.prog Ybaz.f10 R) (F f) w := by
  conv => arg 2; whnf
  have hget := hF.get
  have hmk := hF.up
  have HR : Hid (∀ w', SinkOk w0 w' sp → R (.returned (.pointer (some ⟨sp, 0, none⟩))) w') := hR
  have HK0 : Hid (Nk w0 w sp ga n D) := hK
  obtain ⟨bb, bo, bc, kB0, hblk⟩ := hC.blocks
  have kB := old_cell hK.s kB0
  have HKB : Hid (w0.cell? ⟨fb, 11, none⟩ = some (.slice (some ⟨bb, bo, none⟩) n bc)) := kB0
  clear hR hK kB0
  refine wp_seq_hid (fun K HK => ?_)
  refine wp_seq_hid (fun K2 HK2 => ?_)
  go_wp2
  refine HK2.out _ _ ?_
  clear HK2 kB
  refine wp_block ?_
  refine wp_loop_ghost_k (fun g a w' => ∃ f, a = F f ∧ ∃ i, g + i = n ∧ w' = w ∧ f 0 = .pointer (some ⟨fb, 0, none⟩) ∧ f 8 = .pointer (some ⟨sp, 0, none⟩) ∧ f 135 = .slice (some ⟨bb, bo, none⟩) n bc ∧ f 136 = .int .i64 (n : Nat) ∧ f 137 = .int .i64 (i : Nat)) n ⟨_, rfl, 0, rfl, rfl, by simp [fup_at, h0], by simp [fup_at, h8], by simp [fup_at], by simp [fup_at], by simp [fup_at]⟩ ?_
  clear h0 h8 f
  rintro g _ w' ⟨f, rfl, i, hg, rfl, h0, h8, h135, h136, h137⟩ J K1 hJ hK1
  have HJ : Hid _ := hJ
  have HK1 : Hid (∀ a' w', Handed J g a' w' → K1 a' w') := hK1
  clear hJ hK1
  refine wp_seq_hid (fun Ka HKa => ?_)
  go_wp2
  refine HKa.out _ _ ?_
  clear HKa
  refine wp_seq_hid (fun Kb HKb => ?_)
  refine hF.cond (by omega) rfl (fun hh => ?_) (fun hh => ?_)
  · have hi : i < n := by simpa using hh
    have hiz : (i : Int) < (n : Int) := by omega
    clear hh
    go_wp2
    refine HKb.out _ _ ?_
    clear HKb
    have kblk := old_cell HK0.out.s (hblk i hi)
    obtain ⟨ia, ic, ki0, hij⟩ := hI.li i hi
    have ki := old_cell HK0.out.s ki0
    obtain ⟨mi, hmi⟩ : ∃ mi, mi = m i := ⟨_, rfl⟩
    have hlim : mi ≤ 100000000 := by rw [hmi]; exact hI.lim i hi
    rw [← hmi] at ki hij
    have HMI : Hid (mi = m i) := hmi
    clear hmi ki0
    refine wp_seq_hid (fun K2 HK2 => ?_)
    refine wp_block ?_
    refine wp_seq_hid (fun K3 HK3 => ?_)
    go_wp2
    refine HK3.out _ _ ?_
    clear HK3
    refine wp_seq_hid (fun K4 HK4 => ?_)
    go_wp2
    refine HK4.out _ _ ?_
    clear HK4 ki kblk
    refine wp_block ?_
    refine wp_loop_ghost_k (fun g a w9 => ∃ f, a = F f ∧ ∃ j, g + j = mi ∧ w9 = w' ∧ f 0 = .pointer (some ⟨fb, 0, none⟩) ∧ f 8 = .pointer (some ⟨sp, 0, none⟩) ∧ f 135 = .slice (some ⟨bb, bo, none⟩) n bc ∧ f 136 = .int .i64 (n : Nat) ∧ f 137 = .int .i64 (i : Nat) ∧ f 144 = .slice ia mi ic ∧ f 145 = .int .i64 (mi : Nat) ∧ f 146 = .int .i64 (j : Nat)) mi ⟨_, rfl, 0, rfl, rfl, by simp [fup_at, h0], by simp [fup_at, h8], by simp [fup_at, h135], by simp [fup_at, h136], by simp [fup_at, h137], by simp [fup_at], by simp [fup_at], by simp [fup_at]⟩ ?_
    clear h0 h8 h135 h136 h137 f
    rintro g2 _ w9 ⟨f, rfl, j, hg2, rfl, h0, h8, h135, h136, h137, h144, h145, h146⟩ J2 K5 hJ2 hK5
    have HJ2 : Hid _ := hJ2
    have HK5 : Hid (∀ a' w', Handed J2 g2 a' w' → K5 a' w') := hK5
    clear hJ2 hK5
    refine wp_seq_hid (fun Ka HKa => ?_)
    go_wp2
    refine HKa.out _ _ ?_
    clear HKa
    refine wp_seq_hid (fun Kb HKb => ?_)
    refine hF.cond (by omega) rfl (fun hh => ?_) (fun hh => ?_)
    · have hj : j < mi := by simpa using hh
      have hjz : (j : Int) < (mi : Int) := by omega
      clear hh
      go_wp2
      refine HKb.out _ _ ?_
      clear HKb
      obtain ⟨ib, io, rfl, kin0⟩ := hij j hj
      have kin := old_cell HK0.out.s kin0
      have hj' : j < m i := by rw [← HMI.out]; exact hj
      have k6 := old_cell HK0.out.s (hI.z6 i j hi hj')
      refine wp_seq_hid (fun K6 HK6 => ?_)
      refine wp_block ?_
      refine wp_seq_hid (fun K7 HK7 => ?_)
      go_wp2
      refine HK7.out _ _ ?_
      clear HK7 kin kin0
      refine wp_seq_hid (fun K7 HK7 => ?_)
      go_wp2
      refine HK7.out _ _ ?_
      clear HK7 k6
      refine hF.cond (by omega) rfl (fun h => by cases h) (fun h => ?_)
      clear h
      go_wp2
      refine HK6.out _ _ ?_
      clear HK6
      go_wp2
      exact HK5.out _ _ ⟨g2 - 1, by omega, HJ2.out _ _ _ ⟨_, rfl, j + 1, by omega, rfl, by simp [fup_at, h0], by simp [fup_at, h8], by simp [fup_at, h135], by simp [fup_at, h136], by simp [fup_at, h137], by simp [fup_at, h144], by simp [fup_at, h145], by simp [fup_at]⟩⟩
    · clear hh HKb
      go_wp2
      refine HK2.out _ _ ?_
      clear HK2
      go_wp2
      exact HK1.out _ _ ⟨g - 1, by omega, HJ.out _ _ _ ⟨_, rfl, i + 1, by omega, rfl, by simp [fup_at, h0], by simp [fup_at, h8], by simp [fup_at, h135], by simp [fup_at, h136], by simp [fup_at]⟩⟩
  · clear hh HKb
    go_wp2
    refine HK.out _ _ ?_
    clear HK HK1 HJ
    exact n25t hF hk9 hk10 HKB.out hn HK0.out (by simp [fup_at, h0]) (by simp [fup_at, h8]) HR.out

set_option maxHeartbeats 4000000 in
set_option maxRecDepth 100000 in
theorem n10t {F : (Nat → Value) → Act} (hF : Fr 233 F) {w0 w : World} {n fb sp ga : Nat} {D f : Nat → Value} {bk m kd : Nat → Nat} {ins : Nat → Nat → Nat} {sc : Nat → Option Nat} {R : Ending → World → Prop}
    (hC : Cfg w0 fb n bk sc) (hI : Cfi w0 fb n bk m ins kd) (hk9 : w0.cell? ⟨fb, 9, none⟩ = some (.slice none 0 0)) (hk10 : w0.cell? ⟨fb, 10, none⟩ = some (.slice none 0 0)) (hn : n ≤ 100000) (hK : Nk w0 w sp ga n D) (h0 : f 0 = .pointer (some ⟨fb, 0, none⟩)) (h8 : f 8 = .pointer (some ⟨sp, 0, none⟩))
    (hR : ∀ w', SinkOk w0 w' sp → R (.returned (.pointer (some ⟨sp, 0, none⟩))) w') :
    ((Ybaz.f10.body.bind (codeAt 10)).getD .skip).wp Ybaz.prog (bodyPost Ybaz.prog Ybaz.f10 R) (F f) w := by
  conv => arg 2; whnf
  have hget := hF.get
  have hmk := hF.up
  have HR : Hid (∀ w', SinkOk w0 w' sp → R (.returned (.pointer (some ⟨sp, 0, none⟩))) w') := hR
  have HK0 : Hid (Nk w0 w sp ga n D) := hK
  obtain ⟨bb, bo, bc, kB0, hblk⟩ := hC.blocks
  have kB := old_cell hK.s kB0
  clear hR hK kB0
  refine wp_seq_hid (fun K HK => ?_)
  refine wp_seq_hid (fun K2 HK2 => ?_)
  go_wp2
  refine HK2.out _ _ ?_
  clear HK2 kB
  refine wp_block ?_
  refine wp_loop_ghost_k (fun g a w' => ∃ f, a = F f ∧ ∃ i, g + i = n ∧ Nk w0 w' sp ga n D ∧ f 0 = .pointer (some ⟨fb, 0, none⟩) ∧ f 8 = .pointer (some ⟨sp, 0, none⟩) ∧ f 110 = .int .i64 (n : Nat) ∧ f 111 = .int .i64 (i : Nat)) n ⟨_, rfl, 0, rfl, HK0.out, by simp [fup_at, h0], by simp [fup_at, h8], by simp [fup_at], by simp [fup_at]⟩ ?_
  clear HK0 h0 h8 f
  rintro g _ w1 ⟨f, rfl, i, hg, hK, h0, h8, h110, h111⟩ J K1 hJ hK1
  have HJ : Hid _ := hJ
  have HK1 : Hid (∀ a' w', Handed J g a' w' → K1 a' w') := hK1
  have HK0 : Hid (Nk w0 w1 sp ga n D) := hK
  clear hJ hK1 hK
  refine wp_seq_hid (fun Ka HKa => ?_)
  go_wp2
  refine HKa.out _ _ ?_
  clear HKa
  refine wp_seq_hid (fun Kb HKb => ?_)
  refine hF.cond (by omega) rfl (fun hh => ?_) (fun hh => ?_)
  · have hi : i < n := by simpa using hh
    clear hh
    go_wp2
    refine HKb.out _ _ ?_
    clear HKb
    refine wp_seq_hid (fun K2 HK2 => ?_)
    refine wp_block ?_
    refine wp_seq_hid (fun K3 HK3 => ?_)
    go_wp2
    refine HK3.out _ _ ?_
    clear HK3
    have hk := HK0.out
    refine n13 hF (sp := sp) (ga := ga) (t := i) (by rw [← hk.d5]; exact vals_cell hk.row (by omega)) (zrow_cell hk.acc (by omega)) (zrow_cell hk.acc (by omega)) (hk.acc.frozen _) hi hn (by simp [fup_at, h8]) (by simp [fup_at]) ?_
    intro x hx
    have x0 : x 0 = .pointer (some ⟨fb, 0, none⟩) := (hx 0 (by omega) (by kernel_rfl)).trans (by simp [fup_at, h0])
    have x8 : x 8 = .pointer (some ⟨sp, 0, none⟩) := (hx 8 (by omega) (by kernel_rfl)).trans (by simp [fup_at, h8])
    have x110 : x 110 = .int .i64 (n : Nat) := (hx 110 (by omega) (by kernel_rfl)).trans (by simp [fup_at, h110])
    have x111 : x 111 = .int .i64 (i : Nat) := (hx 111 (by omega) (by kernel_rfl)).trans (by simp [fup_at, h111])
    have HK2' : Hid (Nk w0 (w1.drew.setCell ⟨ga, i + 1, none⟩ (.int .i64 0)) sp ga n D) := ⟨hk.s.drew.setCell hk.bg _, hk.bs, hk.bg, hk.ne, (hk.row.of_block rfl : RowOk w1.drew sp _).of_block (Go.Deep.blk_setCell_other _ _ _ _ (Ne.symm hk.ne)), (hk.acc.of_block rfl : RowOk w1.drew ga _).set (zrow 3 (n + 1) (.int .i64 0)) rfl rfl rfl (fun _ _ _ _ h => h), hk.d5, hk.d21, hk.d22⟩
    refine HK2.out _ _ ?_
    clear HK2 hx h0 h8 h110 h111 HK0 hk
    generalize w1.drew.setCell ⟨ga, i + 1, none⟩ (.int .i64 0) = w3 at HK2' ⊢
    go_wp2
    exact HK1.out _ _ ⟨g - 1, by omega, HJ.out _ _ _ ⟨_, rfl, i + 1, by omega, HK2'.out, by simp [fup_at, x0], by simp [fup_at, x8], by simp [fup_at, x110], by simp [fup_at]⟩⟩
  · clear hh HKb
    go_wp2
    refine HK.out _ _ ?_
    clear HK HK1 HJ
    exact n15t hF hC hI hk9 hk10 hn HK0.out (by simp [fup_at, h0]) (by simp [fup_at, h8]) HR.out

set_option maxHeartbeats 4000000 in
set_option maxRecDepth 100000 in
theorem n0t {F : (Nat → Value) → Act} (hF : Fr 233 F) {w0 : World} {n fb pb : Nat} {al : ByteArray} {f : Nat → Value} {bk m kd : Nat → Nat} {ins : Nat → Nat → Nat} {sc : Nat → Option Nat} {R : Ending → World → Prop}
    (hC : Cfg w0 fb n bk sc) (hI : Cfi w0 fb n bk m ins kd) (hk5 : w0.cell? ⟨fb, 5, none⟩ = some (.pointer none)) (hk9 : w0.cell? ⟨fb, 9, none⟩ = some (.slice none 0 0)) (hk10 : w0.cell? ⟨fb, 10, none⟩ = some (.slice none 0 0)) (hn : n ≤ 100000) (hn1 : 1 ≤ n) (h0 : f 0 = .pointer (some ⟨fb, 0, none⟩)) (h1 : f 1 = .string al) (h2 : f 2 = .slice (some ⟨pb, 0, none⟩) n n)
    (hR : ∀ sp w', SinkOk w0 w' sp → R (.returned (.pointer (some ⟨sp, 0, none⟩))) w') :
    (Ybaz.f10.body.getD .skip).wp Ybaz.prog (bodyPost Ybaz.prog Ybaz.f10 R) (F f) w0 := by
  conv => arg 2; whnf
  have hget := hF.get
  have hmk := hF.up
  have HR : Hid (∀ sp w', SinkOk w0 w' sp → R (.returned (.pointer (some ⟨sp, 0, none⟩))) w') := hR
  have HV : Hid _ := va_any hC hI hn
  obtain ⟨bb, bo, bc, kB0, hblk⟩ := hC.blocks
  have HKB : Hid (w0.cell? ⟨fb, 11, none⟩ = some (.slice (some ⟨bb, bo, none⟩) n bc)) := kB0
  clear hR kB0
  refine wp_seq_hid (fun K HK => ?_)
  go_wp2
  refine HK.out _ _ ?_
  clear HK
  refine wp_seq_hid (fun K HK => ?_)
  go_wp2_with (go_at_call 18; refine Calls.mono HV.out ?_; rintro e w1 ⟨aa, ac, rfl, hs1⟩; dsimp only)
  refine HK.out _ _ ?_
  clear HK HV
  refine wp_seq_hid (fun K HK => ?_)
  refine n2 hF (aa := aa) (ac := ac) (pb := pb) (al := al) hC hn hn1 hk5 hk9 hk10 HKB.out hs1 (by simp [fup_at, h0]) (by simp [fup_at, h1]) (by simp [fup_at, h2]) (by simp [fup_at]) ?_
  intro x w2 sp D hx hs2 hsp hrow d21 d22 x8
  have x0 : x 0 = .pointer (some ⟨fb, 0, none⟩) := (hx 0 (by omega) (by kernel_rfl)).trans (by simp [fup_at, h0])
  have x7 : x 7 = .slice aa 0 ac := (hx 7 (by omega) (by kernel_rfl)).trans (by simp [fup_at])
  refine HK.out _ _ ?_
  clear HK hx hs1 h0 h1 h2
  have HS : Hid _ := sort21 w2 aa ac (.func (.func 22) #[] #[])
  have HR2 : Hid (w0.Since w0.heap.size w2 ∧ RowOk w2 sp (vals 79 23 D)) := ⟨hs2, hrow⟩
  clear hs2 hrow
  refine wp_seq_hid (fun K HK => ?_)
  go_wp2_with (go_at_call 21; refine Calls.mono HS.out ?_; rintro e w' ⟨rfl, rfl⟩; dsimp only)
  refine HK.out _ _ ?_
  clear HK HS
  obtain ⟨hs2, hrow⟩ := HR2.out
  have kB := old_cell hs2 HKB.out
  have hmake := run_mk mty46 (n + 1) (n + 1) (Nat.le_refl _) (by omega)
  rw [show ((n + 1 : Nat) : Int) = (n : Int) + 1 by omega] at hmake
  have hsn := alloc_since w' (.cells (madeCells #[.int .i64 0] (n + 1)) 3)
  have hrow1 : RowOk (w'.alloc (.cells (madeCells #[.int .i64 0] (n + 1)) 3)) sp (vals 79 23 D) := hrow.of_block (hsn.block _ hrow.lt)
  have k5 := vals_cell hrow1 (i := 5) (by omega)
  have k5f := hrow1.frozen 5
  have hlt := hrow.lt
  have HK5 : Hid (Nk w0 ((w'.alloc (.cells (madeCells #[.int .i64 0] (n + 1)) 3)).setCell ⟨sp, 5, none⟩ (.slice (some ⟨w'.heap.size, 0, none⟩) (n + 1) (n + 1))) sp w'.heap.size n (upd D 5 (.slice (some ⟨w'.heap.size, 0, none⟩) (n + 1) (n + 1)))) := by
    refine ⟨(hs2.alloc hs2.size _).setCell hsp _, hsp, hs2.size, by omega, hrow1.set (vals 79 23 (upd D 5 (.slice (some ⟨w'.heap.size, 0, none⟩) (n + 1) (n + 1)))) rfl rfl (by show _ = _; rw [upd_same]) (fun j u hj _ hp => by show u = _; rw [upd_other _ _ hj]; exact hp), (rowOk_z _ _ _ _).of_block (Go.Deep.blk_setCell_other _ _ _ _ (by show w'.heap.size ≠ sp; omega)), upd_same _ _ _, by rw [upd_other _ _ (by omega)]; exact d21, by rw [upd_other _ _ (by omega)]; exact d22⟩
  clear hs2 hrow hsn hrow1 hlt HR2
  refine wp_seq_hid (fun K HK => ?_)
  go_wp2
  refine HK.out _ _ ?_
  clear HK hmake k5 k5f kB
  obtain ⟨ga, hga⟩ : ∃ a, a = w'.heap.size := ⟨_, rfl⟩
  rw [← hga] at HK5 ⊢
  clear hga
  generalize (w'.alloc (.cells (madeCells #[.int .i64 0] (n + 1)) 3)).setCell ⟨sp, 5, none⟩ (.slice (some ⟨ga, 0, none⟩) (n + 1) (n + 1)) = w3 at HK5 ⊢
  refine wp_seq_hid (fun K HK => ?_)
  refine wp_seq_hid (fun K2 HK2 => ?_)
  go_wp2
  refine HK2.out _ _ ?_
  clear HK2
  refine wp_block ?_
  refine wp_loop_once ?_
  refine wp_seq_hid (fun K8 HK8 => ?_)
  go_wp2
  refine HK8.out _ _ ?_
  clear HK8
  refine wp_seq_hid (fun K8 HK8 => ?_)
  refine hF.cond (by omega) rfl (fun h => by cases h) (fun h => ?_)
  clear HK8 h
  go_wp2
  refine HK.out _ _ ?_
  clear HK
  exact n10t hF hC hI hk9 hk10 hn HK5.out (by simp [fup_at, x0]) (by simp [fup_at, x8]) (fun w' h => HR.out sp w' h)

set_option maxRecDepth 100000 in
theorem sinker_any {w0 : World} {n fb pb : Nat} {al : ByteArray} {bk m kd : Nat → Nat} {ins : Nat → Nat → Nat} {sc : Nat → Option Nat} (hC : Cfg w0 fb n bk sc) (hI : Cfi w0 fb n bk m ins kd) (hk5 : w0.cell? ⟨fb, 5, none⟩ = some (.pointer none)) (hk9 : w0.cell? ⟨fb, 9, none⟩ = some (.slice none 0 0)) (hk10 : w0.cell? ⟨fb, 10, none⟩ = some (.slice none 0 0)) (hn : n ≤ 100000) (hn1 : 1 ≤ n) :
    Calls Ybaz.prog 10 #[.pointer (some ⟨fb, 0, none⟩), .string al, .slice (some ⟨pb, 0, none⟩) n n] w0 fun e w' => ∃ sp, e = .returned (.pointer (some ⟨sp, 0, none⟩)) ∧ SinkOk w0 w' sp := by
  refine calls_of_wp Ybaz.func10 rfl ?_
  rw [(frm_fr 233).of (Act.mk _ _) (by simp [Ybaz.ntmps10]) rfl]
  exact n0t (frm_fr 233) (pb := pb) (al := al) hC hI hk5 hk9 hk10 hn hn1 (by simp) (by simp) (by simp) (fun sp w' h => ⟨sp, rfl, h⟩)
end Go.Proofs.YbulkexmzaGreat
