/-
  newDominance (38): from region 42 on.
-/
import Derived.Test.YbulkexmzaGreatUg
namespace Go.Proofs.YbulkexmzaGreat
open Go.RowKit
attribute [local go_sem] fup_at

/-- Behind the searches and the predecessors: registers 0 .. 13. -/
structure Dc (w0 w : World) (E : Nat → Nat) (B : Nat → Lb) (n m L cL : Nat) (pf : Nat → Nat) (pst : List Nat) (D : Nat → Value) : Prop where
  st : St w0 w 14 E B
  b0 : B 0 = bx 46 (.slice (some ⟨E 5, 0, none⟩) n n)
  b5 : B 5 = ints n (fun _ => 0) (fun _ => (m : Int))
  b1 : ∃ v c, B 1 = bx 46 v ∧ Sl E B 6 3 1 m c (qv n) v
  b2 : ∃ v c, B 2 = bx 46 v ∧ Sl E B 7 3 1 m c qp v
  b3 : ∃ v c, B 3 = bx 46 v ∧ Sl E B 8 3 1 pst.length c (ql pst) v
  b10 : B 10 = arr (n + 1) (fun b => ((pf b : Nat) : Int))
  b11 : B 11 = gl 3 1 L cL (qn n)
  b12 : B 12 = vals 130 21 D
  d5 : D 5 = .slice (some ⟨E 10, 0, none⟩) (n + 1) (n + 1)
  d6 : D 6 = .slice (some ⟨E 11, 0, none⟩) L cL
  lc : L ≤ cL
structure Dh (E : Nat → Nat) (n : Nat) (f : Nat → Value) : Prop where
  h7 : f 7 = .int .i64 (n : Nat)
  h8 : f 8 = .int .i64 (n : Nat)
  h9 : f 9 = .pointer (some ⟨E 12, 0, none⟩)
  h10 : f 10 = .pointer (some ⟨E 0, 0, none⟩)
  h11 : f 11 = .pointer (some ⟨E 1, 0, none⟩)
  h12 : f 12 = .pointer (some ⟨E 2, 0, none⟩)
  h13 : f 13 = .pointer (some ⟨E 3, 0, none⟩)
theorem Dh.keep {E : Nat → Nat} {n : Nat} {f x : Nat → Value} {t : List Oper} (h : Dh E n f) (hx : ∀ s, s < 577 → wrF t 0 s = none → x s = f s) (hk : [7, 8, 9, 10, 11, 12, 13].all (fun s => (wrF t 0 s).isNone) = true) : Dh E n x := by
  simp only [List.all_cons, List.all_nil, Bool.and_true, Bool.and_eq_true, Option.isNone_iff_eq_none] at hk
  obtain ⟨k7, k8, k9, k10, k11, k12, k13⟩ := hk
  exact ⟨(hx 7 (by omega) k7).trans h.h7, (hx 8 (by omega) k8).trans h.h8, (hx 9 (by omega) k9).trans h.h9, (hx 10 (by omega) k10).trans h.h10, (hx 11 (by omega) k11).trans h.h11, (hx 12 (by omega) k12).trans h.h12, (hx 13 (by omega) k13).trans h.h13⟩

set_option maxHeartbeats 4000000 in
set_option maxRecDepth 100000 in
theorem t42 {F : (Nat → Value) → Act} (hF : Fr 577 F) {w0 w : World} {E : Nat → Nat} {B : Nat → Lb} {n m L cL : Nat} {pf : Nat → Nat} {pst : List Nat} {D f : Nat → Value} {R : Ending → World → Prop}
    (hP : Pf n L pf) (hL : L ≤ 100000000) (hn : n ≤ 100000) (hnd : pst.Nodup) (hpl : ∀ z ∈ pst, z < n)
    (hD : Dc w0 w E B n m L cL pf pst D) (hm : m ≤ 100001) (hm1 : 1 ≤ m) (hf : Dh E n f)
    (hR : ∀ w', DomOk w0 w' n (E 12) → R (.returned (.pointer (some ⟨E 12, 0, none⟩))) w') :
    ((Ybaz.f38.body.bind (codeAt 42)).getD .skip).wp Ybaz.prog (bodyPost Ybaz.prog Ybaz.f38 R) (F f) w := by
  conv => arg 2; whnf
  have hget := hF.get
  have hmk := hF.up
  have HR : Hid (∀ w', DomOk w0 w' n (E 12) → R (.returned (.pointer (some ⟨E 12, 0, none⟩))) w') := hR
  clear hR
  have HD : Hid (Dc w0 w E B n m L cL pf pst D) := hD
  have HF : Hid (Dh E n f) := hf
  obtain ⟨vv, cv, hb1, hsl⟩ := hD.b1
  obtain ⟨va, vc, rfl, _⟩ := hsl.form
  have k1 := hD.st.box (k := 1) (by omega) hb1
  have h11 := hf.h11
  clear hD hf hsl hb1
  refine wp_seq_hid (fun K HK => ?_)
  go_wp2
  refine HK.out _ _ ?_
  clear HK K k1 h11
  have hf := HF.out
  refine wp_seq_hid (fun K HK => ?_)
  refine r43 hF HD.out.st hm (by simp [fup_at]) ?_
  intro x w1 g1 g3 g5 g6 g7 hx hS x24 x25 x26
  have hfx : Dh E n x := Dh.keep (t := opsL (Ybaz.f38.body.bind (regAt 43))) (f := _) ⟨by simp [fup_at, hf.h7], by simp [fup_at, hf.h8], by simp [fup_at, hf.h9], by simp [fup_at, hf.h10], by simp [fup_at, hf.h11], by simp [fup_at, hf.h12], by simp [fup_at, hf.h13]⟩ hx (by kernel_rfl)
  have x23 : x 23 = .int .i64 (m : Nat) := (hx 23 (by omega) (by kernel_rfl)).trans (by simp [fup_at])
  refine HK.out _ _ ?_
  clear HK K hx hf HF f
  have HFX : Hid (Dh E n x) := hfx
  clear hfx
  -- ancestor
  have s1 := hS.new #[.int .i64 (-1)] 3 19 20 (.inr ⟨rfl, rfl⟩) (arr 1 (fun _ => -1)) rfl rfl (fun i v hv => by
    match i, hv with
    | 0, hv => simp at hv; exact hv.symm)
  have kt : (w1.alloc (.cells #[.int .i64 (-1)] 3)).cell? ⟨w1.heap.size, 0, none⟩ = some (.int .i64 (-1)) := s1.arr (k := 19) (by omega) rfl (i := 0) (by omega)
  have HC : Hid _ := repeat20 (w := w1.alloc (.cells #[.int .i64 (-1)] 3)) (b := w1.heap.size) (c := 1) (-1) m (by omega) kt
  have HS1 : Hid (St w0 (w1.alloc (.cells #[.int .i64 (-1)] 3)) 20 _ _) := s1
  clear hS s1 kt
  refine wp_seq_hid (fun K HK => ?_)
  go_wp2_with (go_at_call 20; refine Calls.mono HC.out ?_; rintro e w2 ⟨rfl, hsn, hrow⟩; dsimp only)
  refine HK.out _ _ ?_
  clear HK K HC
  have hsz1 : (w1.alloc (.cells #[.int .i64 (-1)] 3)).heap.size = w1.heap.size + 1 := World.size_alloc _ _
  have s2 := HS1.out.made hsn (Nat.le_refl _) hrow 20 21 (.inr ⟨rfl, rfl⟩)
  rw [hsz1] at s2
  have s3 := s2.new #[.slice (some ⟨w1.heap.size + 1, 0, none⟩) m m] 46 21 22 (.inr ⟨rfl, rfl⟩) (bx 46 (.slice (some ⟨w1.heap.size + 1, 0, none⟩) m m)) rfl rfl (fun i v hv => by
    match i, hv with
    | 0, hv => simp at hv; exact hv.symm)
  clear s2 HS1 hrow hsn hsz1
  have hf := HFX.out
  -- bucket and nextInBucket
  refine wp_seq_hid (fun K HK => ?_)
  refine r45 hF s3 hm (by simp [fup_at, x23]) ?_
  intro y w3 g22 g23 hy hS y28 y29
  have hfy : Dh E n y := Dh.keep (t := opsL (Ybaz.f38.body.bind (regAt 45))) (f := _) ⟨by simp [fup_at, hf.h7], by simp [fup_at, hf.h8], by simp [fup_at, hf.h9], by simp [fup_at, hf.h10], by simp [fup_at, hf.h11], by simp [fup_at, hf.h12], by simp [fup_at, hf.h13]⟩ hy (by kernel_rfl)
  have y23 : y 23 = .int .i64 (m : Nat) := (hy 23 (by omega) (by kernel_rfl)).trans (by simp [fup_at, x23])
  have y24 : y 24 = .pointer (some ⟨g6, 0, none⟩) := (hy 24 (by omega) (by kernel_rfl)).trans (by simp [fup_at, x24])
  have y25 : y 25 = .pointer (some ⟨g7, 0, none⟩) := (hy 25 (by omega) (by kernel_rfl)).trans (by simp [fup_at, x25])
  have y26 : y 26 = .slice (some ⟨g5, 0, none⟩) m m := (hy 26 (by omega) (by kernel_rfl)).trans (by simp [fup_at, x26])
  have y27 : y 27 = .pointer (some ⟨w2.heap.size, 0, none⟩) := (hy 27 (by omega) (by kernel_rfl)).trans (by simp [fup_at])
  refine HK.out _ _ ?_
  clear HK K hy hf HFX x23 x24 x25 x26 s3 x
  obtain ⟨a20, ha20⟩ : ∃ a, a = w1.heap.size + 1 := ⟨_, rfl⟩
  rw [← ha20] at hS
  obtain ⟨a21, ha21⟩ : ∃ a, a = w2.heap.size := ⟨_, rfl⟩
  rw [← ha21] at hS y27
  clear ha20 ha21
  obtain ⟨E2, hE2⟩ : ∃ E2, E2 = upd (upd (upd (upd (upd (upd (upd (upd (upd (upd E 14 g6) (14 + 1) g7) (14 + 1 + 1) g1) (14 + 1 + 1 + 1) g3) (14 + 1 + 1 + 1 + 1) g5) 19 w1.heap.size) 20 a20) 21 a21) 22 g22) (22 + 1) g23 := ⟨_, rfl⟩
  rw [← hE2] at hS
  have eo : ∀ k, k < 14 → E2 k = E k := fun k hk => by
    rw [hE2]
    simp only [upd, show k ≠ 14 by omega, show k ≠ 15 by omega, show k ≠ 16 by omega, show k ≠ 17 by omega, show k ≠ 18 by omega, show k ≠ 19 by omega, show k ≠ 20 by omega, show k ≠ 21 by omega, show k ≠ 22 by omega, show k ≠ 23 by omega, if_false, Nat.reduceAdd]
  have e14 : E2 14 = g6 := by rw [hE2]; rfl
  have e15 : E2 15 = g7 := by rw [hE2]; rfl
  have e16 : E2 16 = g1 := by rw [hE2]; rfl
  have e17 : E2 17 = g3 := by rw [hE2]; rfl
  have e18 : E2 18 = g5 := by rw [hE2]; rfl
  have e20 : E2 20 = a20 := by rw [hE2]; rfl
  have e21 : E2 21 = a21 := by rw [hE2]; rfl
  have e22 : E2 22 = g22 := by rw [hE2]; rfl
  have e23 : E2 23 = g23 := by rw [hE2]; rfl
  clear hE2
  have hS2 := hS.recast (fun k => match k with
    | 14 => bx 46 (.slice (some ⟨E2 16, 0, none⟩) m m)
    | 15 => bx 46 (.slice (some ⟨E2 17, 0, none⟩) m m)
    | 16 => ints m (fun _ => 0) (fun _ => (m : Int))
    | 17 => ints m (fun _ => 0) (fun _ => (m : Int))
    | 18 => ints m (fun _ => 0) (fun _ => (m : Int))
    | 19 => arr 1 (fun _ => -1)
    | 20 => ints m (fun _ => -1) (fun i => (i : Int))
    | 21 => bx 46 (.slice (some ⟨E2 20, 0, none⟩) m m)
    | 22 => bk m m
    | 23 => nb m m
    | k => B k) (fun k hk => by
    match k, hk with
    | 0, _ => exact same_lb rfl
    | 1, _ => exact same_lb rfl
    | 2, _ => exact same_lb rfl
    | 3, _ => exact same_lb rfl
    | 4, _ => exact same_lb rfl
    | 5, _ => exact same_lb rfl
    | 6, _ => exact same_lb rfl
    | 7, _ => exact same_lb rfl
    | 8, _ => exact same_lb rfl
    | 9, _ => exact same_lb rfl
    | 10, _ => exact same_lb rfl
    | 11, _ => exact same_lb rfl
    | 12, _ => exact same_lb rfl
    | 13, _ => exact same_lb rfl
    | 14, _ => exact same_lb (by rw [e16]; rfl)
    | 15, _ => exact same_lb (by rw [e17]; rfl)
    | 16, _ => exact ⟨rfl, rfl, fun i v _ hv => ⟨0, hv, by show (0 : Int) ≤ 0; omega, by show (0 : Int) < (m : Int); omega⟩⟩
    | 17, _ => exact ⟨rfl, rfl, fun i v _ hv => ⟨0, hv, by show (0 : Int) ≤ 0; omega, by show (0 : Int) < (m : Int); omega⟩⟩
    | 18, _ => exact ⟨rfl, rfl, fun i v _ hv => ⟨0, hv, by show (0 : Int) ≤ 0; omega, by show (0 : Int) < (m : Int); omega⟩⟩
    | 19, _ => exact same_lb rfl
    | 20, _ => exact ⟨rfl, rfl, fun i v _ hv => ⟨-1, hv, by show (-1 : Int) ≤ -1; omega, by show (-1 : Int) < (i : Int); omega⟩⟩
    | 21, _ => exact same_lb (by rw [e20]; rfl)
    | 22, _ => exact ⟨rfl, rfl, fun i v _ hv => ⟨-1, hv, .inl rfl⟩⟩
    | 23, _ => exact ⟨rfl, rfl, fun i v hi hv => ⟨0, hv, fun h => absurd h (by have : i < m := hi; omega)⟩⟩
    | k + 24, hk => exact absurd hk (by omega))
  clear hS
  obtain ⟨B2, hB2⟩ : ∃ B2 : Nat → Lb, B2 = (fun k => match k with
    | 14 => bx 46 (.slice (some ⟨E2 16, 0, none⟩) m m)
    | 15 => bx 46 (.slice (some ⟨E2 17, 0, none⟩) m m)
    | 16 => ints m (fun _ => 0) (fun _ => (m : Int))
    | 17 => ints m (fun _ => 0) (fun _ => (m : Int))
    | 18 => ints m (fun _ => 0) (fun _ => (m : Int))
    | 19 => arr 1 (fun _ => -1)
    | 20 => ints m (fun _ => -1) (fun i => (i : Int))
    | 21 => bx 46 (.slice (some ⟨E2 20, 0, none⟩) m m)
    | 22 => bk m m
    | 23 => nb m m
    | k => B k) := ⟨_, rfl⟩
  rw [← hB2] at hS2
  rw [← e14] at y24
  rw [← e15] at y25
  rw [← e18] at y26
  rw [← e21] at y27
  rw [← e22] at y28
  rw [← e23] at y29
  clear e14 e15 e16 e17 e18 e20 e21 e22 e23
  have HS2 : Hid (St w0 w3 24 E2 B2) := hS2
  have HFY : Hid (Dh E n y) := hfy
  clear hS2 hfy
  refine wp_seq_hid (fun K HK => ?_)
  refine wp_seq_hid (fun K2 HK2 => ?_)
  go_wp2
  refine HK2.out _ _ ?_
  clear HK2 K2
  have hf := HFY.out
  refine wp_block ?_
  refine wp_loop_ghost_k (fun g a w => ∃ f, a = F f ∧ ∃ j, g + j = m ∧ St w0 w 24 E2 B2 ∧ Dh E n f ∧ f 23 = .int .i64 (m : Nat) ∧ f 24 = .pointer (some ⟨E2 14, 0, none⟩) ∧ f 25 = .pointer (some ⟨E2 15, 0, none⟩) ∧ f 26 = .slice (some ⟨E2 18, 0, none⟩) m m ∧ f 27 = .pointer (some ⟨E2 21, 0, none⟩) ∧ f 28 = .slice (some ⟨E2 22, 0, none⟩) m m ∧ f 29 = .slice (some ⟨E2 23, 0, none⟩) m m ∧ f 227 = .int .i64 (m : Nat) ∧ f 228 = .int .i64 (j : Nat)) m ⟨_, rfl, 0, rfl, HS2.out, ⟨by simp [fup_at, hf.h7], by simp [fup_at, hf.h8], by simp [fup_at, hf.h9], by simp [fup_at, hf.h10], by simp [fup_at, hf.h11], by simp [fup_at, hf.h12], by simp [fup_at, hf.h13]⟩, by simp [fup_at, y23], by simp [fup_at, y24], by simp [fup_at, y25], by simp [fup_at, y26], by simp [fup_at, y27], by simp [fup_at, y28], by simp [fup_at, y29], by simp [fup_at], by simp [fup_at]⟩ ?_
  clear HS2 HFY hf y23 y24 y25 y26 y27 y28 y29 y
  rintro g _ w4 ⟨f, rfl, j, hgj, hS, hf, h23, h24, h25, h26, h27, h28, h29, h227, h228⟩ J K1 hJ hK1
  have HJ : Hid _ := hJ
  have HK1 : Hid (∀ a' w', Handed J g a' w' → K1 a' w') := hK1
  have HS : Hid (St w0 w4 24 E2 B2) := hS
  have HF : Hid (Dh E n f) := hf
  clear hJ hK1 hS hf
  refine wp_seq_hid (fun Ka HKa => ?_)
  go_wp2
  refine HKa.out _ _ ?_
  clear HKa Ka
  refine wp_seq_hid (fun Kb HKb => ?_)
  refine hF.cond (by omega) rfl (fun h0 => ?_) (fun h0 => ?_)
  · have hj : j < m := by simpa using h0
    clear h0
    go_wp2
    refine HKb.out _ _ ?_
    clear HKb
    refine wp_seq_hid (fun K2 HK2 => ?_)
    refine wp_block ?_
    refine wp_seq_hid (fun K3 HK3 => ?_)
    go_wp2
    refine HK3.out _ _ ?_
    clear HK3
    refine r49 hF HS.out (b1 := 14) (b2 := 15) (s1 := 16) (s2 := 17) (by omega) (by omega) (by omega) (by omega) (by rw [hB2]; rfl) (by rw [hB2]; rfl) (by rw [hB2]; rfl) (by rw [hB2]; rfl) hj (by simp [fup_at, h24]) (by simp [fup_at, h25]) (by simp [fup_at]) ?_
    intro x w5 hx hS5
    have hf := HF.out
    have hfx : Dh E n x := Dh.keep (t := opsL (Ybaz.f38.body.bind (regAt 49))) (f := _) ⟨by simp [fup_at, hf.h7], by simp [fup_at, hf.h8], by simp [fup_at, hf.h9], by simp [fup_at, hf.h10], by simp [fup_at, hf.h11], by simp [fup_at, hf.h12], by simp [fup_at, hf.h13]⟩ hx (by kernel_rfl)
    have x23 : x 23 = .int .i64 (m : Nat) := (hx 23 (by omega) (by kernel_rfl)).trans (by simp [fup_at, h23])
    have x24 : x 24 = .pointer (some ⟨E2 14, 0, none⟩) := (hx 24 (by omega) (by kernel_rfl)).trans (by simp [fup_at, h24])
    have x25 : x 25 = .pointer (some ⟨E2 15, 0, none⟩) := (hx 25 (by omega) (by kernel_rfl)).trans (by simp [fup_at, h25])
    have x26 : x 26 = .slice (some ⟨E2 18, 0, none⟩) m m := (hx 26 (by omega) (by kernel_rfl)).trans (by simp [fup_at, h26])
    have x27 : x 27 = .pointer (some ⟨E2 21, 0, none⟩) := (hx 27 (by omega) (by kernel_rfl)).trans (by simp [fup_at, h27])
    have x28 : x 28 = .slice (some ⟨E2 22, 0, none⟩) m m := (hx 28 (by omega) (by kernel_rfl)).trans (by simp [fup_at, h28])
    have x29 : x 29 = .slice (some ⟨E2 23, 0, none⟩) m m := (hx 29 (by omega) (by kernel_rfl)).trans (by simp [fup_at, h29])
    have x227 : x 227 = .int .i64 (m : Nat) := (hx 227 (by omega) (by kernel_rfl)).trans (by simp [fup_at, h227])
    have x228 : x 228 = .int .i64 (j : Nat) := (hx 228 (by omega) (by kernel_rfl)).trans (by simp [fup_at, h228])
    have HFX : Hid (Dh E n x) := hfx
    have HS5 : Hid (St w0 w5 24 E2 B2) := hS5
    refine HK2.out _ _ ?_
    clear HK2 hx hf HF HS hfx hS5 h23 h24 h25 h26 h27 h28 h29 h227 h228
    go_wp2
    have hf := HFX.out
    exact HK1.out _ _ ⟨g - 1, by omega, HJ.out _ _ _ ⟨_, rfl, j + 1, by omega, HS5.out, ⟨by simp [fup_at, hf.h7], by simp [fup_at, hf.h8], by simp [fup_at, hf.h9], by simp [fup_at, hf.h10], by simp [fup_at, hf.h11], by simp [fup_at, hf.h12], by simp [fup_at, hf.h13]⟩, by simp [fup_at, x23], by simp [fup_at, x24], by simp [fup_at, x25], by simp [fup_at, x26], by simp [fup_at, x27], by simp [fup_at, x28], by simp [fup_at, x29], by simp [fup_at, x227], by simp [fup_at]⟩⟩
  · clear h0
    go_wp2
    refine HK.out _ _ ?_
    clear HK HK1 HJ HKb
    refine wp_seq_hid (fun K HK => ?_)
    go_wp2
    refine HK.out _ _ ?_
    clear HK
    refine wp_seq_hid (fun K HK => ?_)
    go_wp2
    refine HK.out _ _ ?_
    clear HK
    have s1 := HS.out.new #[.slice none 0 0] 46 24 25 (.inr ⟨rfl, rfl⟩) (bx 46 (.slice none 0 0)) rfl rfl (fun i v hv => by
      match i, hv with
      | 0, hv => simp at hv; exact hv.symm)
    have s2 := s1.perm 25 (fun k => match k with
      | 16 => 21
      | 17 => 24
      | 18 => 16
      | 19 => 17
      | 21 => 19
      | 22 => 18
      | 23 => 22
      | 24 => 23
      | k => k) (by decide) (by decide)
    have hf := HF.out
    have hd := HD.out
    subst hB2
    refine t53 hF (D := D) hP hL hn hnd hpl ⟨⟨s2, rfl, rfl, rfl, ⟨_, 0, 0, rfl, .inl ⟨rfl, rfl⟩⟩, rfl, rfl, rfl⟩, ?_, hd.b5, ?_, ?_, ?_, hd.b10, hd.b11, hd.b12, rfl, rfl, rfl, ?_, ?_, hd.lc⟩ hm hm1 ⟨by simp [fup_at, hf.h7], by simp [fup_at, hf.h8], ?_, ?_, ?_, ?_, ?_, by simp [fup_at, h23], by simp [fup_at, h24]; rfl, by simp [fup_at, h26]; rfl, by simp [fup_at, h27]; rfl, by simp [fup_at, h28]; rfl, by simp [fup_at, h29]; rfl, by simp [fup_at]; exact ⟨rfl, rfl, rfl, rfl⟩⟩ ?_
    · exact hd.b0.trans (by rw [← eo 5 (by omega)]; rfl)
    · obtain ⟨v, c, h1, h2⟩ := hd.b1
      exact ⟨v, c, h1, h2.congr (eo 6 (by omega)) rfl⟩
    · obtain ⟨v, c, h1, h2⟩ := hd.b2
      exact ⟨v, c, h1, h2.congr (eo 7 (by omega)) rfl⟩
    · obtain ⟨v, c, h1, h2⟩ := hd.b3
      exact ⟨v, c, h1, h2.congr (eo 8 (by omega)) rfl⟩
    · exact hd.d5.trans (by rw [← eo 10 (by omega)]; rfl)
    · exact hd.d6.trans (by rw [← eo 11 (by omega)]; rfl)
    · simp only [fup_at, Nat.reduceEqDiff, if_false]
      exact hf.h9.trans (by rw [← eo 12 (by omega)]; rfl)
    · simp only [fup_at, Nat.reduceEqDiff, if_false]
      exact hf.h10.trans (by rw [← eo 0 (by omega)]; rfl)
    · simp only [fup_at, Nat.reduceEqDiff, if_false]
      exact hf.h11.trans (by rw [← eo 1 (by omega)]; rfl)
    · simp only [fup_at, Nat.reduceEqDiff, if_false]
      exact hf.h12.trans (by rw [← eo 2 (by omega)]; rfl)
    · simp only [fup_at, Nat.reduceEqDiff, if_false]
      exact hf.h13.trans (by rw [← eo 3 (by omega)]; rfl)
    · have e := eo 12 (by omega)
      intro w' h
      have h' : DomOk w0 w' n (E2 12) := h
      rw [e] at h'
      have hr := HR.out w' h'
      rw [← e] at hr
      exact hr
end Go.Proofs.YbulkexmzaGreat
