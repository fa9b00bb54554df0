/-
  newDominance (38): the second half of a round of its main loop.
-/
import Derived.Test.YbulkexmzaGreatUb
import Derived.Test.YbulkexmzaGreatUc
namespace Go.Proofs.YbulkexmzaGreat
open Go.RowKit
attribute [local go_sem] fup_at

/-- The slots of the main loop. -/
structure Dg (E : Nat → Nat) (n m : Nat) (f : Nat → Value) : Prop where
  h7 : f 7 = .int .i64 (n : Nat)
  h8 : f 8 = .int .i64 (n : Nat)
  h9 : f 9 = .pointer (some ⟨E 12, 0, none⟩)
  h10 : f 10 = .pointer (some ⟨E 0, 0, none⟩)
  h11 : f 11 = .pointer (some ⟨E 1, 0, none⟩)
  h12 : f 12 = .pointer (some ⟨E 2, 0, none⟩)
  h13 : f 13 = .pointer (some ⟨E 3, 0, none⟩)
  h23 : f 23 = .int .i64 (m : Nat)
  h24 : f 24 = .pointer (some ⟨E 14, 0, none⟩)
  h26 : f 26 = .slice (some ⟨E 22, 0, none⟩) m m
  h27 : f 27 = .pointer (some ⟨E 16, 0, none⟩)
  h28 : f 28 = .slice (some ⟨E 23, 0, none⟩) m m
  h29 : f 29 = .slice (some ⟨E 24, 0, none⟩) m m
  h32 : f 32 = .func (.func 59) #[] #[.pointer (some ⟨E 16, 0, none⟩), .pointer (some ⟨E 17, 0, none⟩), .pointer (some ⟨E 14, 0, none⟩), .pointer (some ⟨E 15, 0, none⟩)]
theorem Dg.keep {E : Nat → Nat} {n m : Nat} {f x : Nat → Value} {t : List Oper} (h : Dg E n m f) (hx : ∀ s, s < 577 → wrF t 0 s = none → x s = f s) (hk : [7, 8, 9, 10, 11, 12, 13, 23, 24, 26, 27, 28, 29, 32].all (fun s => (wrF t 0 s).isNone) = true) : Dg E n m x := by
  simp only [List.all_cons, List.all_nil, Bool.and_true, Bool.and_eq_true, Option.isNone_iff_eq_none] at hk
  obtain ⟨k7, k8, k9, k10, k11, k12, k13, k23, k24, k26, k27, k28, k29, k32⟩ := hk
  exact ⟨(hx 7 (by omega) k7).trans h.h7, (hx 8 (by omega) k8).trans h.h8, (hx 9 (by omega) k9).trans h.h9, (hx 10 (by omega) k10).trans h.h10, (hx 11 (by omega) k11).trans h.h11, (hx 12 (by omega) k12).trans h.h12, (hx 13 (by omega) k13).trans h.h13, (hx 23 (by omega) k23).trans h.h23, (hx 24 (by omega) k24).trans h.h24, (hx 26 (by omega) k26).trans h.h26, (hx 27 (by omega) k27).trans h.h27, (hx 28 (by omega) k28).trans h.h28, (hx 29 (by omega) k29).trans h.h29, (hx 32 (by omega) k32).trans h.h32⟩
theorem Dg.kev {E E' : Nat → Nat} {B B' : Nat → Lb} {n m : Nat} {f : Nat → Value} (h : Dg E n m f) (k : Kev E E' B B') : Dg E' n m f := by
  obtain ⟨ke, _⟩ := k
  have e : ∀ i, i ≠ 21 → E i = E' i := fun i hi => (ke i hi).symm
  obtain ⟨h7, h8, h9, h10, h11, h12, h13, h23, h24, h26, h27, h28, h29, h32⟩ := h
  rw [e 12 (by omega)] at h9
  rw [e 0 (by omega)] at h10
  rw [e 1 (by omega)] at h11
  rw [e 2 (by omega)] at h12
  rw [e 3 (by omega)] at h13
  rw [e 14 (by omega)] at h24
  rw [e 22 (by omega)] at h26
  rw [e 16 (by omega)] at h27
  rw [e 23 (by omega)] at h28
  rw [e 24 (by omega)] at h29
  rw [e 16 (by omega), e 17 (by omega), e 14 (by omega), e 15 (by omega)] at h32
  exact ⟨h7, h8, h9, h10, h11, h12, h13, h23, h24, h26, h27, h28, h29, h32⟩
theorem Dg.df {E : Nat → Nat} {n m : Nat} {f : Nat → Value} (h : Dg E n m f) : Df E n m f := ⟨h.h7, h.h8, h.h9, h.h11, h.h13, h.h23, h.h24, h.h26⟩

/-- parent of a number that is not the root's. -/
theorem De.par {w0 w : World} {E : Nat → Nat} {B : Nat → Lb} {n m L cL P wv : Nat} {pf : Nat → Nat} {pst : List Nat} {D : Nat → Value} (hD : De w0 w E B n m L cL pf pst D P) (hw0 : 0 < wv) (hwv : wv < m) :
    ∃ (c up : Nat), w.cell? ⟨E 2, 0, none⟩ = some (.slice (some ⟨E 7, 0, none⟩) m c) ∧ w.cell? ⟨E 7, wv, none⟩ = some (.int .i64 (up : Nat)) ∧ up < wv := by
  obtain ⟨pv, pc, hb2, hsl⟩ := hD.b2
  obtain ⟨pa, pc', rfl, hpa⟩ := hsl.form
  obtain rfl := hpa (by omega)
  obtain ⟨u, ku, ⟨up', rfl, _, hup⟩, _⟩ := hsl.cell hD.ev.st (by omega) (i := wv) (by omega)
  obtain ⟨hu0, hu1⟩ := hup hw0
  obtain ⟨up, rfl⟩ : ∃ k : Nat, up' = k := ⟨up'.toNat, by omega⟩
  exact ⟨pc', up, hD.ev.st.box (k := 2) (by omega) hb2, ku, by omega⟩

set_option maxHeartbeats 4000000 in
set_option maxRecDepth 100000 in
theorem b64 {F : (Nat → Value) → Act} (hF : Fr 577 F) {w0 w : World} {E : Nat → Nat} {B : Nat → Lb} {n m L cL wv : Nat} {pf : Nat → Nat} {pst : List Nat} {D f : Nat → Value} {Q : Exit → Act → World → Prop}
    (hD : De w0 w E B n m L cL pf pst D (wv + 1)) (hm : m ≤ 100001) (hw0 : 0 < wv) (hwv : wv < m) (hf : Dg E n m f) (h33 : f 33 = .int .i64 (wv : Nat))
    (hQ : ∀ x w' E' B', (∀ k, k ≠ 21 → E' k = E k) → De w0 w' E' B' n m L cL pf pst D wv → Dg E' n m x → x 33 = .int .i64 (wv : Nat) → Q .normal (F x) w') :
    ((Ybaz.f38.body.bind (codeAt 64)).getD .skip).wp Ybaz.prog Q (F f) w := by
  conv => arg 2; whnf
  have hget := hF.get
  have hmk := hF.up
  have HQ : Hid (∀ x w' E' B', (∀ k, k ≠ 21 → E' k = E k) → De w0 w' E' B' n m L cL pf pst D wv → Dg E' n m x → x 33 = .int .i64 (wv : Nat) → Q .normal (F x) w') := hQ
  clear hQ
  have hwz : (wv : Int) < (m : Int) := by omega
  refine wp_seq_hid (fun K HK => ?_)
  refine r64 hF hD hwv hf.h24 hf.h28 hf.h29 h33 ?_
  intro x w2 B2 hx hD2
  have x33 := (hx 33 (by omega) (by kernel_rfl)).trans h33
  have hf2 := hf.keep hx (by kernel_rfl)
  refine HK.out _ _ ?_
  clear HK K hx hf h33 hD
  obtain ⟨pc, up, k2, k7, hup⟩ := hD2.par hw0 hwv
  have k16 := hD2.ev.st.box (k := 16) (by omega) hD2.ev.b16
  obtain ⟨v20, k20, _⟩ := hD2.ev.st.read 20 (by omega) (i := wv) (by rw [hD2.ev.b20]; exact hwv)
  have k20f := hD2.ev.st.frz 20 (by omega) wv
  have hD3 := hD2.put 20 (by omega) (i := wv) (v := .int .i64 (up : Nat)) (by rw [hD2.ev.b20]; exact ⟨up, rfl, by show (-1 : Int) ≤ _; omega, by show (up : Int) < (wv : Int); omega⟩)
  have HD3 : Hid (De w0 (w2.setCell ⟨E 20, wv, none⟩ (.int .i64 (up : Nat))) E B2 n m L cL pf pst D wv) := hD3
  have HF2 : Hid (Dg E n m x) := hf2
  have y12 := hf2.h12
  have y27 := hf2.h27
  clear hD3 hD2 hf2
  refine wp_seq_hid (fun K HK => ?_)
  go_wp2
  refine HK.out _ _ ?_
  clear HK K
  refine wp_seq_hid (fun K HK => ?_)
  go_wp2
  refine HK.out _ _ ?_
  clear HK K
  clear k2 k7 k16 k20 k20f
  generalize w2.setCell ⟨E 20, wv, none⟩ (.int .i64 (up : Nat)) = w3 at HD3 ⊢
  have hupz : (up : Int) < (m : Int) := by omega
  obtain ⟨uz, kz, hz⟩ := HD3.out.ev.st.read 23 (by omega) (i := up) (by rw [HD3.out.b23]; show up < m; omega)
  rw [HD3.out.b23] at hz
  obtain ⟨z, rfl, hz⟩ := hz
  have y28 := HF2.out.h28
  refine wp_seq_hid (fun K HK => ?_)
  refine wp_seq_hid (fun K2 HK2 => ?_)
  go_wp2
  refine HK2.out _ _ ?_
  clear HK2 K2
  have hf := HF2.out
  refine wp_block ?_
  refine wp_loop_ghost_k (fun g a w => ∃ f, a = F f ∧ ∃ E' B' z, (∀ k, k ≠ 21 → E' k = E k) ∧ De w0 w E' B' n m L cL pf pst D wv ∧ Dg E' n m f ∧ f 33 = .int .i64 (wv : Nat) ∧ f 37 = .int .i64 (up : Nat) ∧ f 38 = .int .i64 z ∧ (z = -1 ∧ g = 0 ∨ ((wv : Int) ≤ z ∧ z < m) ∧ (g : Int) + z = m)) (if z = -1 then 0 else m - z.toNat) ⟨_, rfl, E, B2, z, fun _ _ => rfl, HD3.out, ⟨by simp [fup_at, hf.h7], by simp [fup_at, hf.h8], by simp [fup_at, hf.h9], by simp [fup_at, hf.h10], by simp [fup_at, hf.h11], by simp [fup_at, hf.h12], by simp [fup_at, hf.h13], by simp [fup_at, hf.h23], by simp [fup_at, hf.h24], by simp [fup_at, hf.h26], by simp [fup_at, hf.h27], by simp [fup_at, hf.h28], by simp [fup_at, hf.h29], by simp [fup_at, hf.h32]⟩, by simp [fup_at, x33], by simp [fup_at], by simp [fup_at], by split <;> omega⟩ ?_
  clear HD3 HF2 hf kz y28 y12 y27 x33 hz z
  rintro g _ w ⟨f, rfl, E1, B1, z, hE1, hD, hf, h33, h37, h38, hz⟩ J K1 hJ hK1
  have HJ : Hid _ := hJ
  have HK1 : Hid (∀ a' w', Handed J g a' w' → K1 a' w') := hK1
  have HD : Hid (De w0 w E1 B1 n m L cL pf pst D wv) := hD
  have HE1 : Hid (∀ k, k ≠ 21 → E1 k = E k) := hE1
  clear hJ hK1 hD hE1
  rcases hz with ⟨rfl, hg⟩ | ⟨hz, hg⟩
  · go_wp2
    refine hF.cond (by omega) rfl (fun h0 => by cases h0) (fun h0 => ?_)
    go_wp2
    refine HK.out _ _ ?_
    clear HK HK1 HJ h0
    obtain ⟨v3, k23, _⟩ := HD.out.ev.st.read 23 (by omega) (i := up) (by rw [HD.out.b23]; show up < m; omega)
    have k23f := HD.out.ev.st.frz 23 (by omega) up
    have y28 := hf.h28
    have HFF : Hid (Dg E1 n m f) := hf
    clear hf
    go_wp2
    have hf := HFF.out
    exact HQ.out _ _ E1 B1 HE1.out (HD.out.put 23 (by omega) (by rw [HD.out.b23]; exact ⟨-1, rfl, .inl rfl⟩)) ⟨by simp [fup_at, hf.h7], by simp [fup_at, hf.h8], by simp [fup_at, hf.h9], by simp [fup_at, hf.h10], by simp [fup_at, hf.h11], by simp [fup_at, hf.h12], by simp [fup_at, hf.h13], by simp [fup_at, hf.h23], by simp [fup_at, hf.h24], by simp [fup_at, hf.h26], by simp [fup_at, hf.h27], by simp [fup_at, hf.h28], by simp [fup_at, hf.h29], by simp [fup_at, hf.h32]⟩ (by simp [fup_at, h33])
  · obtain ⟨v, rfl⟩ : ∃ v : Nat, z = v := ⟨z.toNat, by omega⟩
    have hvm : v < m := by omega
    have hvz : (v : Int) < (m : Int) := by omega
    have hE := HD.out.ev
    have HC : Hid _ := eval_any hE hm hvm
    have HFF : Hid (Dg E1 n m f) := hf
    have y32 := hf.h32
    have hd0 : decide (0 ≤ (v : Int)) = true := by simp
    clear hE hf
    refine wp_seq_hid (fun K2 HK2 => ?_)
    go_wp2
    refine hF.cond (by omega) rfl (fun h0 => ?_) (fun h0 => by cases h0)
    clear h0
    go_wp2
    refine HK2.out _ _ ?_
    clear HK2
    refine wp_seq_hid (fun K2 HK2 => ?_)
    refine wp_block ?_
    refine wp_seq_hid (fun K3 HK3 => ?_)
    go_wp2_with (go_at_call 59; refine Calls.mono HC.out ?_; rintro e w5 ⟨u, E2, B2, rfl, hu, hk2, hev⟩; dsimp only)
    refine HK3.out _ _ ?_
    clear HK3 HC
    have hD2 := HD.out.kev hk2 hev
    have hf2 := HFF.out.kev hk2
    have HD2 : Hid (De w0 w5 E2 B2 n m L cL pf pst D wv) := hD2
    have HF2 : Hid (Dg E2 n m f) := hf2
    have HK2' : Hid (∀ k, k ≠ 21 → E2 k = E k) := fun k hk => (hk2.1 k hk).trans (HE1.out k hk)
    have huz : (u : Int) < (m : Int) := by omega
    have k14 := hD2.ev.st.box (k := 14) (by omega) hD2.ev.b14
    obtain ⟨s1, ks1, _, _⟩ := hD2.ev.st.intAt (k := 18) (by omega) hD2.ev.b18 (i := u) hu
    obtain ⟨s2, ks2, _, _⟩ := hD2.ev.st.intAt (k := 18) (by omega) hD2.ev.b18 (i := v) hvm
    obtain ⟨v3, k22, _⟩ := hD2.ev.st.read 22 (by omega) (i := v) (by rw [hD2.b22]; exact hvm)
    have k22f := hD2.ev.st.frz 22 (by omega) v
    have y24 := hf2.h24
    have y26 := hf2.h26
    clear hD2 hf2 hk2 hev y32 HD HFF HE1
    refine wp_seq_hid (fun K3 HK3 => ?_)
    go_still (by kernel_rfl)
    go_wp2
    refine HK3.out _ _ ?_
    clear HK3
    have HEND : Hid (∀ (y : Nat → Value) (w6 : World), De w0 w6 E2 B2 n m L cL pf pst D wv → Dg E2 n m y → y 33 = .int .i64 (wv : Nat) → y 37 = .int .i64 (up : Nat) → y 38 = .int .i64 (v : Nat) → K2 (F y) w6) := ?hend
    case hend =>
      clear k14 ks1 ks2 k22 k22f y24 y26 h33 h37 h38
      intro y w6 hD hf y33 y37 y38
      refine HK2.out _ _ ?_
      clear HK2
      obtain ⟨un, kn, hn⟩ := hD.ev.st.read 24 (by omega) (i := v) (by rw [hD.b24]; exact hvm)
      rw [hD.b24] at hn
      obtain ⟨zn, rfl, hn⟩ := hn
      have hn := hn (by omega)
      have y29 := hf.h29
      have HD6 : Hid (De w0 w6 E2 B2 n m L cL pf pst D wv) := hD
      have HF6 : Hid (Dg E2 n m y) := hf
      clear hD hf
      go_wp2
      have hf := HF6.out
      refine HK1.out _ _ ⟨if zn = -1 then 0 else m - zn.toNat, by split <;> omega, HJ.out _ _ _ ⟨_, rfl, E2, B2, zn, HK2'.out, HD6.out, ⟨by simp [fup_at, hf.h7], by simp [fup_at, hf.h8], by simp [fup_at, hf.h9], by simp [fup_at, hf.h10], by simp [fup_at, hf.h11], by simp [fup_at, hf.h12], by simp [fup_at, hf.h13], by simp [fup_at, hf.h23], by simp [fup_at, hf.h24], by simp [fup_at, hf.h26], by simp [fup_at, hf.h27], by simp [fup_at, hf.h28], by simp [fup_at, hf.h29], by simp [fup_at, hf.h32]⟩, by simp [fup_at, y33], by simp [fup_at, y37], by simp [fup_at], by split <;> omega⟩⟩
    refine hF.cond (by omega) rfl (fun h0 => ?_) (fun h0 => ?_)
    · clear h0
      go_wp2
      have hf := HF2.out
      exact HEND.out _ _ (HD2.out.drew.put 22 (by omega) (by rw [HD2.out.b22]; exact ⟨u, rfl, by show (0 : Int) ≤ _; omega, huz⟩)) ⟨by simp [fup_at, hf.h7], by simp [fup_at, hf.h8], by simp [fup_at, hf.h9], by simp [fup_at, hf.h10], by simp [fup_at, hf.h11], by simp [fup_at, hf.h12], by simp [fup_at, hf.h13], by simp [fup_at, hf.h23], by simp [fup_at, hf.h24], by simp [fup_at, hf.h26], by simp [fup_at, hf.h27], by simp [fup_at, hf.h28], by simp [fup_at, hf.h29], by simp [fup_at, hf.h32]⟩ (by simp [fup_at, h33]) (by simp [fup_at, h37]) (by simp [fup_at, h38])
    · clear h0
      go_wp2
      have hf := HF2.out
      exact HEND.out _ _ (HD2.out.drew.put 22 (by omega) (by rw [HD2.out.b22]; exact ⟨up, rfl, by show (0 : Int) ≤ _; omega, hupz⟩)) ⟨by simp [fup_at, hf.h7], by simp [fup_at, hf.h8], by simp [fup_at, hf.h9], by simp [fup_at, hf.h10], by simp [fup_at, hf.h11], by simp [fup_at, hf.h12], by simp [fup_at, hf.h13], by simp [fup_at, hf.h23], by simp [fup_at, hf.h24], by simp [fup_at, hf.h26], by simp [fup_at, hf.h27], by simp [fup_at, hf.h28], by simp [fup_at, hf.h29], by simp [fup_at, hf.h32]⟩ (by simp [fup_at, h33]) (by simp [fup_at, h37]) (by simp [fup_at, h38])

set_option maxHeartbeats 4000000 in
set_option maxRecDepth 100000 in
theorem b62 {F : (Nat → Value) → Act} (hF : Fr 577 F) {w0 w : World} {E : Nat → Nat} {B : Nat → Lb} {n m L cL wv : Nat} {pf : Nat → Nat} {pst : List Nat} {D f : Nat → Value} {Q : Exit → Act → World → Prop}
    (hD : De w0 w E B n m L cL pf pst D (wv + 1)) (hm : m ≤ 100001) (hw0 : 0 < wv) (hwv : wv < m) (hf : Dg E n m f) (h33 : f 33 = .int .i64 (wv : Nat))
    (hQ : ∀ x w' E' B', (∀ k, k ≠ 21 → E' k = E k) → De w0 w' E' B' n m L cL pf pst D wv → Dg E' n m x → x 33 = .int .i64 (wv : Nat) → Q .normal (F x) w') :
    ((Ybaz.f38.body.bind (codeAt 62)).getD .skip).wp Ybaz.prog Q (F f) w := by
  conv => arg 2; whnf
  have hget := hF.get
  have hmk := hF.up
  have HQ : Hid (∀ x w' E' B', (∀ k, k ≠ 21 → E' k = E k) → De w0 w' E' B' n m L cL pf pst D wv → Dg E' n m x → x 33 = .int .i64 (wv : Nat) → Q .normal (F x) w') := hQ
  clear hQ
  have hwz : (wv : Int) < (m : Int) := by omega
  obtain ⟨pc, up, k2, k7, hup⟩ := hD.par hw0 hwv
  have k14 := hD.ev.st.box (k := 14) (by omega) hD.ev.b14
  obtain ⟨v18, k18, _⟩ := hD.ev.st.read 18 (by omega) (i := wv) (by rw [hD.ev.b18]; exact hwv)
  have k18f := hD.ev.st.frz 18 (by omega) wv
  have h12 := hf.h12
  have h24 := hf.h24
  have HD : Hid (De w0 w E B n m L cL pf pst D (wv + 1)) := hD
  have HF : Hid (Dg E n m f) := hf
  clear hD hf
  refine wp_seq_hid (fun K HK => ?_)
  go_wp2
  refine hF.cond (by omega) rfl (fun h0 => ?_) (fun h0 => ?_)
  · clear h0
    go_wp2
    refine HK.out _ _ ?_
    clear HK
    have hf := HF.out
    exact b64 hF (HD.out.put 18 (by omega) (by rw [HD.out.ev.b18]; exact ⟨0, rfl, by show (0 : Int) ≤ 0; omega, by show (0 : Int) < m; omega⟩)) hm hw0 hwv ⟨by simp [fup_at, hf.h7], by simp [fup_at, hf.h8], by simp [fup_at, hf.h9], by simp [fup_at, hf.h10], by simp [fup_at, hf.h11], by simp [fup_at, hf.h12], by simp [fup_at, hf.h13], by simp [fup_at, hf.h23], by simp [fup_at, hf.h24], by simp [fup_at, hf.h26], by simp [fup_at, hf.h27], by simp [fup_at, hf.h28], by simp [fup_at, hf.h29], by simp [fup_at, hf.h32]⟩ (by simp [fup_at, h33]) HQ.out
  · clear h0
    go_wp2
    refine HK.out _ _ ?_
    clear HK
    have hf := HF.out
    exact b64 hF HD.out hm hw0 hwv ⟨by simp [fup_at, hf.h7], by simp [fup_at, hf.h8], by simp [fup_at, hf.h9], by simp [fup_at, hf.h10], by simp [fup_at, hf.h11], by simp [fup_at, hf.h12], by simp [fup_at, hf.h13], by simp [fup_at, hf.h23], by simp [fup_at, hf.h24], by simp [fup_at, hf.h26], by simp [fup_at, hf.h27], by simp [fup_at, hf.h28], by simp [fup_at, hf.h29], by simp [fup_at, hf.h32]⟩ (by simp [fup_at, h33]) HQ.out
end Go.Proofs.YbulkexmzaGreat
