/-
  Liveness (19): from region 40 on (no access: the loops over accesses make no round).
-/
import Derived.Test.YbulkexmzaGreatLg
namespace Go.Proofs.YbulkexmzaGreat
open Go.RowKit
attribute [local go_sem] fup_at

structure Lz (w0 w : World) (E : Nat → Nat) (B : Nat → Lb) (n L : Nat) (pf : Nat → Nat) (D : Nat → Value) : Prop where
  st : St w0 w 4 E B
  b0 : B 0 = vals 122 30 D
  b1 : B 1 = bx 74 (.pointer (some ⟨E 0, 0, none⟩))
  b2 : B 2 = arr (n + 1) (fun b => ((pf b : Nat) : Int))
  b3 : B 3 = ⟨3, L, qn n⟩
  d3 : D 3 = .slice (some ⟨E 2, 0, none⟩) (n + 1) (n + 1)
  d4 : D 4 = .slice (some ⟨E 3, 0, none⟩) L L
theorem Lz.next {w0 w w' : World} {E E' : Nat → Nat} {B B' : Nat → Lb} {n L K : Nat} {pf : Nat → Nat} {D D' : Nat → Value} (h : Lz w0 w E B n L pf D) (hs : St w0 w' K E' B') (hK : 4 ≤ K) (he : ∀ k, k < 4 → E' k = E k) (hb : ∀ k, k < 4 → B' k = upd B 0 (vals 122 30 D') k) (h3 : D' 3 = D 3) (h4 : D' 4 = D 4) : Lz w0 w' E (upd B 0 (vals 122 30 D')) n L pf D' :=
  ⟨(hs.less hK).congr (fun k hk => (he k hk).symm) (fun k hk => (hb k hk).symm), upd_same _ _ _, by rw [upd_other _ _ (by omega)]; exact h.b1, by rw [upd_other _ _ (by omega)]; exact h.b2, by rw [upd_other _ _ (by omega)]; exact h.b3, h3.trans h.d3, h4.trans h.d4⟩

set_option maxHeartbeats 4000000 in
set_option maxRecDepth 100000 in
theorem l59t {F : (Nat → Value) → Act} (hF : Fr 371 F) {w0 w : World} {E : Nat → Nat} {B : Nat → Lb} {n L fb : Nat} {pf : Nat → Nat} {D f : Nat → Value} {bk : Nat → Nat} {sc : Nat → Option Nat} {R : Ending → World → Prop}
    (hC : Cfg w0 fb n bk sc) (hZ : Lz w0 w E B n L pf D) (hP : Pf n L pf) (hL : L ≤ 100000000) (hn : n ≤ 100000) (hn1 : 1 ≤ n) (h0 : f 0 = .pointer (some ⟨fb, 0, none⟩)) (h7 : f 7 = .pointer (some ⟨E 1, 0, none⟩)) (h11 : f 11 = .int .i64 (n : Nat))
    (hR : ∀ w', w0.Since w0.heap.size w' → R (.returned (.pointer (some ⟨E 0, 0, none⟩))) w') :
    ((Ybaz.f19.body.bind (codeAt 59)).getD .skip).wp Ybaz.prog (bodyPost Ybaz.prog Ybaz.f19 R) (F f) w := by
  conv => arg 2; whnf
  refine wp_seq_hid (fun K HK => ?_)
  refine l59 hF hn h11 hZ.b1 hZ.st hZ.b0 h7 ?_
  intro x w1 g4 g6 g8 D1 hx hS1 _ _ _ hkp
  have hZ1 := hZ.next hS1 (by omega) (fun k hk => by rw [upd_other _ _ (by omega), upd_other _ _ (by omega), upd_other _ _ (by omega)]) (fun k hk => by rw [upd_other _ _ (by omega), upd_other _ _ (by omega), upd_other _ _ (by omega)]) (hkp 3 (by omega) (by omega) (by omega)) (hkp 4 (by omega) (by omega) (by omega))
  have x0 := (hx 0 (by omega) (by kernel_rfl)).trans h0
  have x7 := (hx 7 (by omega) (by kernel_rfl)).trans h7
  have x11 := (hx 11 (by omega) (by kernel_rfl)).trans h11
  refine HK.out _ _ ?_
  clear HK hx hS1 hkp h0 h7 h11
  refine wp_seq_hid (fun K HK => ?_)
  refine l60 hF hn x11 hZ1.b1 hZ1.st hZ1.b0 x7 ?_
  intro y w2 g4 g6 g8 D2 hy hS2 _ _ _ hkp
  have hZ2 := hZ1.next hS2 (by omega) (fun k hk => by rw [upd_other _ _ (by omega), upd_other _ _ (by omega), upd_other _ _ (by omega)]) (fun k hk => by rw [upd_other _ _ (by omega), upd_other _ _ (by omega), upd_other _ _ (by omega)]) (hkp 3 (by omega) (by omega) (by omega)) (hkp 4 (by omega) (by omega) (by omega))
  have y0 := (hy 0 (by omega) (by kernel_rfl)).trans x0
  have y7 := (hy 7 (by omega) (by kernel_rfl)).trans x7
  have y11 := (hy 11 (by omega) (by kernel_rfl)).trans x11
  refine HK.out _ _ ?_
  clear HK hy hS2 hkp x0 x7 x11
  refine wp_seq_hid (fun K HK => ?_)
  refine l61 hF hC hZ2.st hZ2.b0 hZ2.b1 hZ2.b2 hZ2.b3 hZ2.d3 hZ2.d4 hP hL hn hn1 y0 y7 ?_
  intro z w3 D3 B3 dp gp hz hW
  have z7 := (hz 7 (by omega) (by kernel_rfl)).trans y7
  have z11 := (hz 11 (by omega) (by kernel_rfl)).trans y11
  refine HK.out _ _ ?_
  clear HK hz
  exact l62 hF hW hP hL hn z7 z11 hR

set_option maxHeartbeats 4000000 in
set_option maxRecDepth 100000 in
theorem l40t {F : (Nat → Value) → Act} (hF : Fr 371 F) {w0 w : World} {E : Nat → Nat} {B : Nat → Lb} {n L fb ac : Nat} {aa : Option Addr} {pf : Nat → Nat} {D f : Nat → Value} {bk : Nat → Nat} {sc : Nat → Option Nat} {R : Ending → World → Prop}
    (hC : Cfg w0 fb n bk sc) (hZ : Lz w0 w E B n L pf D) (hP : Pf n L pf) (hL : L ≤ 100000000) (hn : n ≤ 100000) (hn1 : 1 ≤ n) (h0 : f 0 = .pointer (some ⟨fb, 0, none⟩)) (h1 : f 1 = .int .i64 0) (h2 : f 2 = .slice aa 0 ac) (h7 : f 7 = .pointer (some ⟨E 1, 0, none⟩)) (h11 : f 11 = .int .i64 (n : Nat))
    (hR : ∀ w', w0.Since w0.heap.size w' → R (.returned (.pointer (some ⟨E 0, 0, none⟩))) w') :
    ((Ybaz.f19.body.bind (codeAt 40)).getD .skip).wp Ybaz.prog (bodyPost Ybaz.prog Ybaz.f19 R) (F f) w := by
  conv => arg 2; whnf
  have hget := hF.get
  have hmk := hF.up
  refine wp_seq_hid (fun K HK => ?_)
  refine l40 hF h1 hZ.b1 hZ.st hZ.b0 h7 ?_
  intro x w1 g5 D1 hx hS1 d5 hkp
  have hZ1 := hZ.next hS1 (by omega) (fun k hk => by rw [upd_other _ _ (by omega)]) (fun k hk => by rw [upd_other _ _ (by omega)]) (hkp 3 (by omega)) (hkp 4 (by omega))
  have x0 := (hx 0 (by omega) (by kernel_rfl)).trans h0
  have x1 := (hx 1 (by omega) (by kernel_rfl)).trans h1
  have x2 := (hx 2 (by omega) (by kernel_rfl)).trans h2
  have x7 := (hx 7 (by omega) (by kernel_rfl)).trans h7
  have x11 := (hx 11 (by omega) (by kernel_rfl)).trans h11
  refine HK.out _ _ ?_
  clear HK hx hS1 hkp h0 h1 h2 h7 h11 hZ K
  have HZ1 : Hid (Lz w0 w1 E (upd B 0 (vals 122 30 D1)) n L pf D1) := hZ1
  have HR : Hid (∀ w', w0.Since w0.heap.size w' → R (.returned (.pointer (some ⟨E 0, 0, none⟩))) w') := hR
  clear hZ1 hR
  refine wp_seq_hid (fun K HK => ?_)
  refine wp_seq_hid (fun K2 HK2 => ?_)
  go_wp2
  refine HK2.out _ _ ?_
  clear HK2 K2
  refine wp_block ?_
  refine wp_loop_once ?_
  refine wp_seq_hid (fun K2 HK2 => ?_)
  go_wp2
  refine HK2.out _ _ ?_
  clear HK2 K2
  refine wp_seq_hid (fun K2 HK2 => ?_)
  refine hF.cond (by omega) rfl (fun h => by cases h) (fun h => ?_)
  clear HK2 h
  go_wp2
  refine HK.out _ _ ?_
  clear HK
  -- over the variables
  refine wp_seq_hid (fun K HK => ?_)
  refine wp_seq_hid (fun K2 HK2 => ?_)
  go_wp2
  refine HK2.out _ _ ?_
  clear HK2 K2
  refine wp_block ?_
  refine wp_loop_once ?_
  refine wp_seq_hid (fun K2 HK2 => ?_)
  go_wp2
  refine HK2.out _ _ ?_
  clear HK2 K2
  refine wp_seq_hid (fun K2 HK2 => ?_)
  refine hF.cond (by omega) rfl (fun h => by cases h) (fun h => ?_)
  clear HK2 h
  go_wp2
  refine HK.out _ _ ?_
  clear HK
  refine wp_seq_hid (fun K HK => ?_)
  refine l51 hF (aa := aa) (ac := ac) (by simp [fup_at, x2]) HZ1.out.b1 HZ1.out.st HZ1.out.b0 (by simp [fup_at, x7]) ?_
  intro y w2 g3 D2 hy hS2 _ hkp
  have hZ2 := HZ1.out.next hS2 (by omega) (fun k hk => by rw [upd_other _ _ (by omega)]) (fun k hk => by rw [upd_other _ _ (by omega)]) (hkp 3 (by omega)) (hkp 4 (by omega))
  have y0 : y 0 = .pointer (some ⟨fb, 0, none⟩) := (hy 0 (by omega) (by kernel_rfl)).trans (by simp [fup_at, x0])
  have y1 : y 1 = .int .i64 0 := (hy 1 (by omega) (by kernel_rfl)).trans (by simp [fup_at, x1])
  have y2 : y 2 = .slice aa 0 ac := (hy 2 (by omega) (by kernel_rfl)).trans (by simp [fup_at, x2])
  have y7 : y 7 = .pointer (some ⟨E 1, 0, none⟩) := (hy 7 (by omega) (by kernel_rfl)).trans (by simp [fup_at, x7])
  have y11 : y 11 = .int .i64 (n : Nat) := (hy 11 (by omega) (by kernel_rfl)).trans (by simp [fup_at, x11])
  have k1 := hZ2.st.box (k := 1) (by omega) hZ2.b1
  have k5 := hZ2.st.valAt (k := 0) (by omega) hZ2.b0 (i := 5) (by omega)
  rw [hkp 5 (by omega), d5] at k5
  refine HK.out _ _ ?_
  clear HK hy hS2 hkp HZ1 x0 x1 x2 x7 x11
  have HZ2 : Hid (Lz w0 w2 E (upd (upd B 0 (vals 122 30 D1)) 0 (vals 122 30 D2)) n L pf D2) := hZ2
  clear hZ2
  have HCL : Hid _ := clone37 (w := w2) (b := g5) (n := 0) (c := 1) (fun _ => 0) (by omega) (fun j hj => absurd hj (Nat.not_lt_zero _))
  refine wp_seq_hid (fun K HK => ?_)
  go_wp2_with (go_at_call 37; refine Calls.mono HCL.out ?_; rintro e w3 ⟨gg, cap, rfl, _, _, hsn, _⟩; dsimp only)
  refine HK.out _ _ ?_
  clear HK HCL k1 k5
  have HZ3 : Hid (Lz w0 w3 E (upd (upd B 0 (vals 122 30 D1)) 0 (vals 122 30 D2)) n L pf D2) := ⟨HZ2.out.st.later hsn, HZ2.out.b0, HZ2.out.b1, HZ2.out.b2, HZ2.out.b3, HZ2.out.d3, HZ2.out.d4⟩
  clear HZ2 hsn
  refine wp_seq_hid (fun K HK => ?_)
  refine wp_seq_hid (fun K2 HK2 => ?_)
  go_wp2
  refine HK2.out _ _ ?_
  clear HK2 K2
  refine wp_block ?_
  refine wp_loop_once ?_
  refine wp_seq_hid (fun K2 HK2 => ?_)
  go_wp2
  refine HK2.out _ _ ?_
  clear HK2 K2
  refine wp_seq_hid (fun K2 HK2 => ?_)
  refine hF.cond (by omega) rfl (fun h => by cases h) (fun h => ?_)
  clear HK2 h
  go_wp2
  refine HK.out _ _ ?_
  clear HK
  exact l59t hF hC HZ3.out hP hL hn hn1 (by simp [fup_at, y0]) (by simp [fup_at, y7]) (by simp [fup_at, y11]) HR.out
end Go.Proofs.YbulkexmzaGreat
