/-
  newDominance (38): from region 93 on.
-/
import Derived.Test.YbulkexmzaGreatTt
import Derived.Test.YbulkexmzaGreatTu
namespace Go.Proofs.YbulkexmzaGreat
open Go.RowKit
attribute [local go_sem] fup_at

set_option maxHeartbeats 4000000 in
set_option maxRecDepth 100000 in
theorem t93 {F : (Nat → Value) → Act} (hF : Fr 577 F) {w0 w : World} {E : Nat → Nat} {B : Nat → Lb} {n : Nat} {fc nx : Nat → Int} {rk : Nat → Nat} {Pc : Nat → Prop} {D f : Nat → Value} {R : Ending → World → Prop}
    (hn : n ≤ 100000) (hnx : ∀ c, Pc c → nx c < 0 ∨ ∃ d : Nat, nx c = d ∧ d ≤ n ∧ Pc d ∧ rk d < rk c) (hrk : ∀ c, Pc c → rk c ≤ n) (fb : ∀ i, i ≤ n → fc i < 0 ∨ ∃ c : Nat, fc i = c ∧ c ≤ n ∧ Pc c)
    (hS : St w0 w 3 E B) (b0 : B 0 = vals 130 21 D) (b1 : B 1 = arr (n + 1) fc) (b2 : B 2 = arr (n + 1) nx)
    (h7 : f 7 = .int .i64 (n : Nat)) (h8 : f 8 = .int .i64 (n : Nat)) (h9 : f 9 = .pointer (some ⟨E 0, 0, none⟩)) (h42 : f 42 = .slice (some ⟨E 1, 0, none⟩) (n + 1) (n + 1)) (h43 : f 43 = .slice (some ⟨E 2, 0, none⟩) (n + 1) (n + 1))
    (hR : ∀ w', DomOk w0 w' n (E 0) → R (.returned (.pointer (some ⟨E 0, 0, none⟩))) w') :
    ((Ybaz.f38.body.bind (codeAt 93)).getD .skip).wp Ybaz.prog (bodyPost Ybaz.prog Ybaz.f38 R) (F f) w := by
  conv => arg 2; whnf
  have hget := hF.get
  have hmk := hF.up
  refine wp_seq_hid (fun K HK => ?_)
  refine r93 hF hn h7 hS b0 h9 ?_
  intro x w1 g3 g4 g5 D1 hx hS1 d3 d4 d2 hkp
  have x7 := (hx 7 (by omega) (by kernel_rfl)).trans h7
  have x8 := (hx 8 (by omega) (by kernel_rfl)).trans h8
  have x9 := (hx 9 (by omega) (by kernel_rfl)).trans h9
  have x42 := (hx 42 (by omega) (by kernel_rfl)).trans h42
  have x43 := (hx 43 (by omega) (by kernel_rfl)).trans h43
  refine HK.out _ _ ?_
  clear HK hx h7 h8 h9 h42 h43 hkp K hS
  refine wp_seq_hid (fun K HK => ?_)
  refine r94 hF hn x7 hS1 (by rw [upd_other _ _ (by omega), upd_other _ _ (by omega), upd_other _ _ (by omega), upd_same]) (x9.trans (by rw [upd_other _ _ (by omega), upd_other _ _ (by omega), upd_other _ _ (by omega)])) ?_
  intro y w2 g6 g7 D2 hy hS2 d7 d8 hkp
  have y8 := (hy 8 (by omega) (by kernel_rfl)).trans x8
  have y9 := (hy 9 (by omega) (by kernel_rfl)).trans x9
  have y42 := (hy 42 (by omega) (by kernel_rfl)).trans x42
  have y43 := (hy 43 (by omega) (by kernel_rfl)).trans x43
  refine HK.out _ _ ?_
  clear HK hy x7 x8 x9 x42 x43 K hS1
  have e2 := (hkp 2 (by omega) (by omega)).trans d2
  have e3 := (hkp 3 (by omega) (by omega)).trans d3
  have e4 := (hkp 4 (by omega) (by omega)).trans d4
  obtain ⟨E2, hE2⟩ : ∃ E2, E2 = upd (upd (upd (upd (upd E 3 g3) 4 g4) 5 g5) 6 g6) 7 g7 := ⟨_, rfl⟩
  have E0' : E2 0 = E 0 := by rw [hE2]; rfl
  have E1' : E2 1 = E 1 := by rw [hE2]; rfl
  have E2' : E2 2 = E 2 := by rw [hE2]; rfl
  have E3' : E2 3 = g3 := by rw [hE2]; rfl
  have E4' : E2 4 = g4 := by rw [hE2]; rfl
  have E5' : E2 5 = g5 := by rw [hE2]; rfl
  have E6' : E2 6 = g6 := by rw [hE2]; rfl
  have E7' : E2 7 = g7 := by rw [hE2]; rfl
  rw [← hE2] at hS2
  clear hE2
  obtain ⟨B2, hB2⟩ : ∃ B2, B2 = upd (upd (upd (upd (upd (upd (upd B 0 (vals 130 21 D1)) 3 (zrow 3 (n + 1) (.int .i64 0))) 4 (zrow 3 (n + 1) (.int .i64 0))) 5 (zrow 3 (n + 1) (.int .i64 0))) 0 (vals 130 21 D2)) 6 (zrow 3 (n + 1) (.int .i64 0))) 7 (zrow 3 (n + 1) (.int .i64 0)) := ⟨_, rfl⟩
  rw [← hB2] at hS2
  have B0' : B2 0 = vals 130 21 D2 := by rw [hB2]; rfl
  have B1' : B2 1 = arr (n + 1) fc := by rw [hB2, ← b1]; rfl
  have B2' : B2 2 = arr (n + 1) nx := by rw [hB2, ← b2]; rfl
  have B3' : B2 3 = zrow 3 (n + 1) (.int .i64 0) := by rw [hB2]; rfl
  have B4' : B2 4 = zrow 3 (n + 1) (.int .i64 0) := by rw [hB2]; rfl
  have B5' : B2 5 = zrow 3 (n + 1) (.int .i64 0) := by rw [hB2]; rfl
  have B6' : B2 6 = zrow 3 (n + 1) (.int .i64 0) := by rw [hB2]; rfl
  have B7' : B2 7 = zrow 3 (n + 1) (.int .i64 0) := by rw [hB2]; rfl
  clear hB2
  have k7 := hS2.valAt (k := 0) (by omega) B0' (i := 7) (by omega)
  rw [d7, E0'] at k7
  obtain ⟨u, ku, _⟩ := hS2.read 6 (by omega) (i := 0) (by rw [B6']; show 0 < n + 1; omega)
  have kf := hS2.frz 6 (by omega) 0
  rw [E6'] at ku kf
  have HS2 : Hid (St w0 w2 8 E2 B2) := hS2
  clear hS2
  refine wp_seq_hid (fun K HK => ?_)
  go_wp2
  refine HK.out _ _ ?_
  clear HK K
  refine wp_seq_hid (fun K HK => ?_)
  go_wp2
  refine HK.out _ _ ?_
  clear HK K
  have s0 := HS2.out.recast (fun k => match k with
    | 0 => vals 130 21 D2
    | 1 => arr (n + 1) fc
    | 2 => arr (n + 1) nx
    | 3 => ints (n + 1) (fun _ => 0) (fun _ => 1000000000000)
    | 6 => gl 3 1 1 (n + 1) anyInt
    | 7 => gl 3 1 0 (n + 1) anyInt
    | _ => anyInts (n + 1)) (fun k hk => by
    match k, hk with
    | 0, _ => exact same_lb B0'.symm
    | 1, _ => exact same_lb B1'.symm
    | 2, _ => exact same_lb B2'.symm
    | 3, _ => rw [B3']; exact ⟨rfl, rfl, fun i v _ hv => ⟨0, hv, by show (0 : Int) ≤ 0; omega, by show (0 : Int) < 1000000000000; omega⟩⟩
    | 4, _ => rw [B4']; exact ⟨rfl, rfl, fun i v _ hv => ⟨0, hv⟩⟩
    | 5, _ => rw [B5']; exact ⟨rfl, rfl, fun i v _ hv => ⟨0, hv⟩⟩
    | 6, _ => rw [B6']; exact ⟨rfl, by show (n + 1) * 1 = n + 1; omega, fun i v _ hv _ => ⟨0, hv⟩⟩
    | 7, _ => rw [B7']; exact ⟨rfl, by show (n + 1) * 1 = n + 1; omega, fun i v _ hv _ => ⟨0, hv⟩⟩)
  have s1 := s0.put 6 (by omega) (i := 0) (v := .int .i64 (n : Nat)) (fun _ => ⟨_, rfl⟩)
  have s2 := s1.new #[.int .i64 (n : Nat)] 3 8 9 (.inr ⟨rfl, rfl⟩) (gl 3 1 1 1 (le_ n)) rfl rfl (fun i v hv _ => by
    match i, hv with
    | 0, hv => simp at hv; exact ⟨n, hv.symm, Nat.le_refl _⟩)
  rw [E6'] at s2
  refine t97 hF hnx ⟨_, _, fc, 1, 0, 1, D2, _, ⟨s2, rfl, rfl, rfl, rfl, rfl, rfl, e2.trans (by rw [← E5']; rfl), e3.trans (by rw [← E3']; rfl), e4.trans (by rw [← E4']; rfl), ⟨n + 1, .inr ⟨d7.trans (by rw [← E6']; rfl), rfl, by omega, by unfold maxLen; omega⟩⟩, ⟨n + 1, .inr ⟨d8.trans (by rw [← E7']; rfl), rfl, by omega, by unfold maxLen; omega⟩⟩, ⟨1, .inr ⟨rfl, rfl, by omega, by unfold maxLen; omega⟩⟩⟩, E0', E1', E2', by simp [fup_at, y9], by simp [fup_at, y42], by simp [fup_at, y43], by simp [fup_at]; rfl, fb, rfl, ?_⟩ hR
  have := sm_le (wgt fc rk) (n + 1) (n + 1) (fun i hi => by
    unfold wgt
    split
    · omega
    · rcases fb i (by omega) with h | ⟨c, h1, h2, h3⟩
      · omega
      · rw [h1]; have := hrk c h3; show rk c + 1 ≤ _; omega)
  have h2 : (n + 1) * (n + 1) ≤ 100001 * 100001 := Nat.mul_le_mul (by omega) (by omega)
  omega
end Go.Proofs.YbulkexmzaGreat
