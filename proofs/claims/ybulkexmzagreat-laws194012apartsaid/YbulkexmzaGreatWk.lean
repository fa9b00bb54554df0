/-
  THE WALK of the law (function 3).
-/
import Derived.Test.YbulkexmzaGreatWj
namespace Go.Proofs.YbulkexmzaGreat
open Go.RowKit
attribute [local go_sem] fup_at
def tot (L : Nat → Nat) : Nat → Nat
  | 0 => 0
  | x + 1 => tot L x + (L x + 1)
theorem tot_ge (L : Nat → Nat) {i x : Nat} (h : i < x) : L i + 1 ≤ tot L x := by
  induction x with
  | zero => omega
  | succ x ih =>
    unfold tot
    by_cases e : i = x
    · subst e; omega
    · have := ih (by omega); omega
theorem tot_le (L : Nat → Nat) {b : Nat} {N : Nat} (h : ∀ i, i < N → L i ≤ b) {x : Nat} (hx : x ≤ N) : tot L x ≤ x * (b + 1) := by
  induction x with
  | zero => simp [tot]
  | succ x ih =>
    unfold tot
    have h1 := ih (by omega)
    have h2 := h x (by omega)
    rw [Nat.add_mul]
    omega
theorem mty35 : Mty 35 39 (.slice none 0 0) := ⟨Ybaz.underlying35, ⟨24, by kernel_rfl, by omega⟩, rfl⟩
theorem mty36 : Mty 36 47 (.slice none 0 0) := ⟨Ybaz.underlying36, ⟨24, by kernel_rfl, by omega⟩, rfl⟩
theorem mty37 : Mty 37 46 (.slice none 0 0) := ⟨Ybaz.underlying37, ⟨24, by kernel_rfl, by omega⟩, rfl⟩
structure Abd (X : Ain) : Prop where
  L : ∀ i, i < X.N → X.L i ≤ 140737488351232
  P : ∀ i, X.P i < 256
  K : ∀ i j, X.K i j < 256
  S : ∀ i j, X.S i j < 256
  I : ∀ i j, X.I i j < 256
  O : ∀ i j, X.O i j < 256
  off : ∀ i j, X.L i ≤ j → X.K i j = 1 ∧ X.S i j = 0 ∧ X.I i j = 0 ∧ X.O i j = 0
set_option maxHeartbeats 4000000 in
set_option maxRecDepth 100000 in
/-- From the tables on. -/
theorem l11 {F : (Nat → Value) → Act} (hF : Fr 559 F) {X : Ain} (hX : Aok X) {w0 w : World} {ra : Option Addr} {rb ro rc : Nat} {ba : Nat → Option Addr} {bc bb bo : Nat → Nat} (hA : Arg w0 X ra rb ro ba bc bb bo) {al : ByteArray} {pg : Nat} {E : Lab → Nat} {f : Nat → Value} {R : Ending → World → Prop} (hpg : pg < 256)
    (hS : Sg w0 w E (fun _ => none))
    (h0 : f 0 = .slice ra X.N rc) (h1 : f 1 = .int .u8 (pg : Nat)) (h2 : f 2 = .string al)
    (hR : ∀ w', w0.Since w0.heap.size w' → R (.returned (.bool true)) w') :
    (((Ybaz.f3.body.bind (codeAt 11)).getD .skip)).wp Ybaz.prog (bodyPost Ybaz.prog Ybaz.f3 R) (F f) w := by
  conv => arg 2; whnf
  have hget := hF.get
  have hmk := hF.up
  have HR : Hid (∀ w', w0.Since w0.heap.size w' → R (.returned (.bool true)) w') := hR
  have HX : Hid (Aok X) := hX
  have HA : Hid (Arg w0 X ra rb ro ba bc bb bo) := hA
  have hNm := hX.N
  have hS1 := hS.newA pkgs 26 (0, 1, 0, 0) (n := 3) rfl
  have HS1 : Hid (Sg w0 (w.alloc (.cells #[.string ⟨#[109, 97, 105, 110]⟩, .string ⟨#[115, 105, 110, 107]⟩, .string ⟨#[114, 117, 110, 116, 105, 109, 101]⟩] 26)) (lup E (0, 1, 0, 0) w.heap.size) (lup (fun _ => none) (0, 1, 0, 0) (some (vals 26 3 (litv pkgs))))) := hS1
  obtain ⟨p3, hp3⟩ : ∃ p3, p3 = pg % 3 := ⟨_, rfl⟩
  have hmodp : (pg : Int) % 3 = (p3 : Int) := by omega
  have hp33 : p3 < 3 := by omega
  clear hR hX hA hS hS1 hp3
  refine wp_seq_hid (fun K HK => ?_)
  go_wp2
  refine HK.out _ _ ?_
  clear HK
  obtain ⟨E1, hE1⟩ : ∃ E1, E1 = lup E (0, 1, 0, 0) w.heap.size := ⟨_, rfl⟩
  obtain ⟨B1, hB1⟩ : ∃ B1 : Lab → Option Lb, B1 = lup (fun _ => none) (0, 1, 0, 0) (some (vals 26 3 (litv pkgs))) := ⟨_, rfl⟩
  have e1 : w.heap.size = E1 (0, 1, 0, 0) := by rw [hE1, lup_same]
  rw [← hE1, ← hB1] at HS1
  rw [e1]
  have b11 : B1 (0, 1, 0, 0) = some (vals 26 3 (litv pkgs)) := by rw [hB1, lup_same]
  clear hE1 hB1 e1
  generalize w.alloc (.cells #[.string ⟨#[109, 97, 105, 110]⟩, .string ⟨#[115, 105, 110, 107]⟩, .string ⟨#[114, 117, 110, 116, 105, 109, 101]⟩] 26) = w1 at HS1 ⊢
  have ks : w1.cell? ⟨E1 (0, 1, 0, 0), p3, none⟩ = some (.string (pkgn p3)) := by rw [HS1.out.val b11 hp33, pkgs_at hp33]
  refine wp_seq_hid (fun K HK => ?_)
  go_wp2
  refine HK.out _ _ ?_
  clear HK ks
  obtain ⟨want, hwant⟩ : ∃ want, want = pkgn p3 := ⟨_, rfl⟩
  rw [← hwant]
  clear hwant
  refine wp_seq_hid (fun K HK => ?_)
  go_wp2
  refine HK.out _ _ ?_
  clear HK
  have hS2 := HS1.out.newA #[.pointer none, .slice none 0 0, .slice none 0 0, .slice none 0 0, .slice none 0 0, .slice none 0 0, .string ⟨#[]⟩, .string al] 34 (0, 2, 0, 0) (n := 8) rfl
  obtain ⟨E2, hE2⟩ : ∃ E2, E2 = lup E1 (0, 2, 0, 0) w1.heap.size := ⟨_, rfl⟩
  obtain ⟨B2, hB2⟩ : ∃ B2, B2 = lup B1 (0, 2, 0, 0) (some (vals 34 8 (litv #[.pointer none, .slice none 0 0, .slice none 0 0, .slice none 0 0, .slice none 0 0, .slice none 0 0, .string ⟨#[]⟩, .string al]))) := ⟨_, rfl⟩
  have e2 : w1.heap.size = E2 (0, 2, 0, 0) := by rw [hE2, lup_same]
  rw [← hE2, ← hB2] at hS2
  rw [e2]
  have u1 : E1 (0, 1, 0, 0) = E2 (0, 1, 0, 0) := by rw [hE2, lup_other _ _ (by simp)]
  rw [u1]
  have HS2 : Hid (Sg w0 (w1.alloc (.cells #[.pointer none, .slice none 0 0, .slice none 0 0, .slice none 0 0, .slice none 0 0, .slice none 0 0, .string ⟨#[]⟩, .string al] 34)) E2 B2) := hS2
  have HBB2 : Hid (B2 (0, 1, 0, 0) = some (vals 26 3 (litv pkgs)) ∧ B2 (0, 2, 0, 0) = some (vals 34 8 (litv #[.pointer none, .slice none 0 0, .slice none 0 0, .slice none 0 0, .slice none 0 0, .slice none 0 0, .string ⟨#[]⟩, .string al]))) := by
    rw [hB2, lup_same, lup_other _ _ (by simp)]; exact ⟨b11, rfl⟩
  clear hS2 hE2 hB2 e2 u1 HS1 b11
  generalize w1.alloc (.cells #[.pointer none, .slice none 0 0, .slice none 0 0, .slice none 0 0, .slice none 0 0, .slice none 0 0, .string ⟨#[]⟩, .string al] 34) = w2 at HS2 ⊢
  -- the four tables
  have hm := run_mk mty35 X.N X.N (Nat.le_refl _) (by omega)
  refine wp_seq_hid (fun K HK => ?_)
  go_wp2
  refine HK.out _ _ ?_
  clear HK hm
  have hS3 := HS2.out.makeV (.slice none 0 0) X.N 39 (0, 3, 0, 0)
  obtain ⟨E3, hE3⟩ : ∃ E3, E3 = lup E2 (0, 3, 0, 0) w2.heap.size := ⟨_, rfl⟩
  obtain ⟨B3, hB3⟩ : ∃ B3, B3 = lup B2 (0, 3, 0, 0) (some (vals 39 X.N (fun _ => .slice none 0 0))) := ⟨_, rfl⟩
  have e3 : w2.heap.size = E3 (0, 3, 0, 0) := by rw [hE3, lup_same]
  rw [← hE3, ← hB3] at hS3
  rw [e3]
  have u1 : E2 (0, 1, 0, 0) = E3 (0, 1, 0, 0) := by rw [hE3, lup_other _ _ (by simp)]
  have u2 : E2 (0, 2, 0, 0) = E3 (0, 2, 0, 0) := by rw [hE3, lup_other _ _ (by simp)]
  rw [u1, u2]
  have HS3 : Hid (Sg w0 (w2.alloc (.cells (madeCells #[.slice none 0 0] X.N) 39)) E3 B3) := hS3
  have HB3 : Hid (∀ l : Lab, l ≠ (0, 3, 0, 0) → B3 l = B2 l) := fun l hl => by rw [hB3, lup_other _ _ hl]
  have HB33 : Hid (B3 (0, 3, 0, 0) = some (vals 39 X.N (fun _ => .slice none 0 0))) := by rw [hB3]; exact lup_same _ _ _
  clear hS3 hE3 hB3 e3 u1 u2 HS2
  generalize w2.alloc (.cells (madeCells #[.slice none 0 0] X.N) 39) = w3 at HS3 ⊢
  have hm := run_mk mty36 X.N X.N (Nat.le_refl _) (by omega)
  refine wp_seq_hid (fun K HK => ?_)
  go_wp2
  refine HK.out _ _ ?_
  clear HK hm
  have hS4 := HS3.out.makeV (.slice none 0 0) X.N 47 (0, 4, 0, 0)
  obtain ⟨E4, hE4⟩ : ∃ E4, E4 = lup E3 (0, 4, 0, 0) w3.heap.size := ⟨_, rfl⟩
  obtain ⟨B4, hB4⟩ : ∃ B4, B4 = lup B3 (0, 4, 0, 0) (some (vals 47 X.N (fun _ => .slice none 0 0))) := ⟨_, rfl⟩
  have e4 : w3.heap.size = E4 (0, 4, 0, 0) := by rw [hE4, lup_same]
  rw [← hE4, ← hB4] at hS4
  rw [e4]
  have u1 : E3 (0, 1, 0, 0) = E4 (0, 1, 0, 0) := by rw [hE4, lup_other _ _ (by simp)]
  have u2 : E3 (0, 2, 0, 0) = E4 (0, 2, 0, 0) := by rw [hE4, lup_other _ _ (by simp)]
  have u3 : E3 (0, 3, 0, 0) = E4 (0, 3, 0, 0) := by rw [hE4, lup_other _ _ (by simp)]
  rw [u1, u2, u3]
  have HS4 : Hid (Sg w0 (w3.alloc (.cells (madeCells #[.slice none 0 0] X.N) 47)) E4 B4) := hS4
  have HB4 : Hid (∀ l : Lab, l ≠ (0, 4, 0, 0) → B4 l = B3 l) := fun l hl => by rw [hB4, lup_other _ _ hl]
  have HB44 : Hid (B4 (0, 4, 0, 0) = some (vals 47 X.N (fun _ => .slice none 0 0))) := by rw [hB4]; exact lup_same _ _ _
  clear hS4 hE4 hB4 e4 u1 u2 u3 HS3
  generalize w3.alloc (.cells (madeCells #[.slice none 0 0] X.N) 47) = w4 at HS4 ⊢
  have hm := run_mk mty37 X.N X.N (Nat.le_refl _) (by omega)
  refine wp_seq_hid (fun K HK => ?_)
  go_wp2
  refine HK.out _ _ ?_
  clear HK hm
  have hS5 := HS4.out.makeV (.slice none 0 0) X.N 46 (0, 5, 0, 0)
  obtain ⟨E5, hE5⟩ : ∃ E5, E5 = lup E4 (0, 5, 0, 0) w4.heap.size := ⟨_, rfl⟩
  obtain ⟨B5, hB5⟩ : ∃ B5, B5 = lup B4 (0, 5, 0, 0) (some (vals 46 X.N (fun _ => .slice none 0 0))) := ⟨_, rfl⟩
  have e5 : w4.heap.size = E5 (0, 5, 0, 0) := by rw [hE5, lup_same]
  rw [← hE5, ← hB5] at hS5
  rw [e5]
  have u1 : E4 (0, 1, 0, 0) = E5 (0, 1, 0, 0) := by rw [hE5, lup_other _ _ (by simp)]
  have u2 : E4 (0, 2, 0, 0) = E5 (0, 2, 0, 0) := by rw [hE5, lup_other _ _ (by simp)]
  have u3 : E4 (0, 3, 0, 0) = E5 (0, 3, 0, 0) := by rw [hE5, lup_other _ _ (by simp)]
  have u4 : E4 (0, 4, 0, 0) = E5 (0, 4, 0, 0) := by rw [hE5, lup_other _ _ (by simp)]
  rw [u1, u2, u3, u4]
  have HS5 : Hid (Sg w0 (w4.alloc (.cells (madeCells #[.slice none 0 0] X.N) 46)) E5 B5) := hS5
  have HB5 : Hid (∀ l : Lab, l ≠ (0, 5, 0, 0) → B5 l = B4 l) := fun l hl => by rw [hB5, lup_other _ _ hl]
  have HB55 : Hid (B5 (0, 5, 0, 0) = some (vals 46 X.N (fun _ => .slice none 0 0))) := by rw [hB5]; exact lup_same _ _ _
  clear hS5 hE5 hB5 e5 u1 u2 u3 u4 HS4
  generalize w4.alloc (.cells (madeCells #[.slice none 0 0] X.N) 46) = w5 at HS5 ⊢
  have hm := run_mk mty38 X.N X.N (Nat.le_refl _) (by omega)
  refine wp_seq_hid (fun K HK => ?_)
  go_wp2
  refine HK.out _ _ ?_
  clear HK hm
  have hS6 := HS5.out.makeV (.pointer none) X.N 50 (0, 6, 0, 0)
  obtain ⟨E6, hE6⟩ : ∃ E6, E6 = lup E5 (0, 6, 0, 0) w5.heap.size := ⟨_, rfl⟩
  obtain ⟨B6, hB6⟩ : ∃ B6, B6 = lup B5 (0, 6, 0, 0) (some (vals 50 X.N (fun _ => .pointer none))) := ⟨_, rfl⟩
  have e6 : w5.heap.size = E6 (0, 6, 0, 0) := by rw [hE6, lup_same]
  rw [← hE6, ← hB6] at hS6
  rw [e6]
  have u1 : E5 (0, 1, 0, 0) = E6 (0, 1, 0, 0) := by rw [hE6, lup_other _ _ (by simp)]
  have u2 : E5 (0, 2, 0, 0) = E6 (0, 2, 0, 0) := by rw [hE6, lup_other _ _ (by simp)]
  have u3 : E5 (0, 3, 0, 0) = E6 (0, 3, 0, 0) := by rw [hE6, lup_other _ _ (by simp)]
  have u4 : E5 (0, 4, 0, 0) = E6 (0, 4, 0, 0) := by rw [hE6, lup_other _ _ (by simp)]
  have u5 : E5 (0, 5, 0, 0) = E6 (0, 5, 0, 0) := by rw [hE6, lup_other _ _ (by simp)]
  rw [u1, u2, u3, u4, u5]
  have HS6 : Hid (Sg w0 (w5.alloc (.cells (madeCells #[.pointer none] X.N) 50)) E6 B6) := hS6
  have HB6 : Hid (∀ l : Lab, l ≠ (0, 6, 0, 0) → B6 l = B5 l) := fun l hl => by rw [hB6, lup_other _ _ hl]
  have HB66 : Hid (B6 (0, 6, 0, 0) = some (vals 50 X.N (fun _ => .pointer none))) := by rw [hB6]; exact lup_same _ _ _
  clear hS6 hE6 hB6 e6 u1 u2 u3 u4 u5 HS5
  generalize w5.alloc (.cells (madeCells #[.pointer none] X.N) 50) = w6 at HS6 ⊢
  refine wp_seq_hid (fun K HK => ?_)
  go_wp2
  refine HK.out _ _ ?_
  clear HK
  have hBst : Bst w0 w6 E6 B6 X al 0 := by
    refine ⟨HS6.out, ?_, ⟨litv #[.pointer none, .slice none 0 0, .slice none 0 0, .slice none 0 0, .slice none 0 0, .slice none 0 0, .string ⟨#[]⟩, .string al], .slice none 0 0, 0, ?_, rfl, rfl, .inl ⟨rfl, rfl⟩⟩, ⟨fun _ => .slice none 0 0, ?_, fun j hj => absurd hj (Nat.not_lt_zero _)⟩, ⟨fun _ => .slice none 0 0, ?_, fun j hj => absurd hj (Nat.not_lt_zero _)⟩, ⟨fun _ => .slice none 0 0, ?_, fun j hj => absurd hj (Nat.not_lt_zero _)⟩, ⟨_, HB66.out, fun j hj => absurd hj (Nat.not_lt_zero _)⟩, fun j hj => absurd hj (Nat.not_lt_zero _)⟩
    · rw [HB6.out _ (by simp), HB5.out _ (by simp), HB4.out _ (by simp), HB3.out _ (by simp)]; exact HBB2.out.1
    · rw [HB6.out _ (by simp), HB5.out _ (by simp), HB4.out _ (by simp), HB3.out _ (by simp)]; exact HBB2.out.2
    · rw [HB6.out _ (by simp), HB5.out _ (by simp), HB4.out _ (by simp)]; exact HB33.out
    · rw [HB6.out _ (by simp), HB5.out _ (by simp)]; exact HB44.out
    · rw [HB6.out _ (by simp)]; exact HB55.out
  refine wp_seq_hid (fun K HK => ?_)
  refine b19 hF HX.out HA.out (rc := rc) hBst (by simp [fup_at, h0]) (by simp [fup_at]) (by simp [fup_at]) (by simp [fup_at]) (by simp [fup_at]) (by simp [fup_at]) (by simp [fup_at]) (by simp [fup_at]) ?_
  intro y w7 E7 B7 hy hB7 hE7
  refine HK.out _ _ ?_
  clear HK
  have z : ∀ a, a ≠ 7 → E7 (0, a, 0, 0) = E6 (0, a, 0, 0) := fun a ha => hE7 _ rfl (fun e => ha (lab4 e).2.1)
  refine c75 hF HX.out HA.out (rc := rc) (want := want) hB7 ?_ ?_ ?_ ?_ ?_ ?_ ?_ ?_ ?_ (fun w' E' B' hS => HR.out w' hS.since)
  · rw [hy 0 (by omega)]; simp [fup_at, h0]
  · rw [hy 2 (by omega)]; simp [fup_at, h2]
  · rw [z 1 (by omega), hy 10 (by omega)]; simp [fup_at]
  · rw [hy 11 (by omega)]; simp [fup_at]
  · rw [z 2 (by omega), hy 12 (by omega)]; simp [fup_at]
  · rw [z 3 (by omega), hy 13 (by omega)]; simp [fup_at]
  · rw [z 4 (by omega), hy 14 (by omega)]; simp [fup_at]
  · rw [z 5 (by omega), hy 15 (by omega)]; simp [fup_at]
  · rw [z 6 (by omega), hy 16 (by omega)]; simp [fup_at]
set_option maxHeartbeats 4000000 in
set_option maxRecDepth 100000 in
theorem law0t {F : (Nat → Value) → Act} (hF : Fr 559 F) {X : Ain} (hX : Abd X) {w0 : World} {ra : Option Addr} {rb ro rc : Nat} {ba : Nat → Option Addr} {bc bb bo : Nat → Nat} (hA : Arg w0 X ra rb ro ba bc bb bo) {al : ByteArray} {pg : Nat} {f : Nat → Value} {R : Ending → World → Prop} (hpg : pg < 256)
    (h0 : f 0 = .slice ra X.N rc) (h1 : f 1 = .int .u8 (pg : Nat)) (h2 : f 2 = .string al)
    (hR : ∀ w', w0.Since w0.heap.size w' → R (.returned (.bool true)) w') :
    (Ybaz.f3.body.getD .skip).wp Ybaz.prog (bodyPost Ybaz.prog Ybaz.f3 R) (F f) w0 := by
  conv => arg 2; whnf
  have hget := hF.get
  have hmk := hF.up
  have HR : Hid (∀ w', w0.Since w0.heap.size w' → R (.returned (.bool true)) w') := hR
  have HX : Hid (Abd X) := hX
  have HA : Hid (Arg w0 X ra rb ro ba bc bb bo) := hA
  clear hR hX hA
  refine wp_seq_hid (fun K HK => ?_)
  go_wp2
  refine HK.out _ _ ?_
  clear HK
  refine wp_seq_hid (fun K HK => ?_)
  go_wp2
  refine hF.cond (by omega) rfl (fun hh => ?_) (fun hh => ?_)
  · clear HK hh
    go_wp2
    exact hF.ret (t := 6) (v := .bool true) rfl (by omega) (by simp [fup_at]) (HR.out w0 (.refl _ _))
  have hNm : X.N ≤ 4096 := by
    have : ¬ (4096 : Int) < (X.N : Int) := by simpa using hh
    omega
  clear hh
  go_wp2
  refine HK.out _ _ ?_
  clear HK
  refine wp_seq_hid (fun K HK => ?_)
  go_wp2
  refine HK.out _ _ ?_
  clear HK
  refine wp_seq_hid (fun K HK => ?_)
  refine wp_seq_hid (fun K2 HK2 => ?_)
  go_wp2
  refine HK2.out _ _ ?_
  clear HK2
  refine wp_block ?_
  refine wp_loop_ghost_k (fun g a w => ∃ y, a = F y ∧ ∃ i E, g + i = X.N ∧ y 0 = .slice ra X.N rc ∧ y 1 = .int .u8 (pg : Nat) ∧ y 2 = .string al ∧ y 7 = .int .i64 (tot X.L i : Nat) ∧ y 53 = .slice ra X.N rc ∧ y 54 = .int .i64 (X.N : Nat) ∧ y 55 = .int .i64 (i : Nat) ∧ Sg w0 w E (fun _ => none)) X.N
    ⟨_, rfl, 0, fun _ => 0, rfl, by simp [fup_at, h0], by simp [fup_at, h1], by simp [fup_at, h2], by simp [fup_at, tot], by simp [fup_at], by simp [fup_at], by simp [fup_at], Sg.start w0 _⟩ ?_
  clear h0 h1 h2 f
  rintro g _ w1 ⟨y, rfl, i, E, hg, y0, y1, y2, y7, y53, y54, y55, hS⟩ J K3 hJk hK3
  have HJk : Hid (∀ g a w, (∃ y, a = F y ∧ ∃ i E, g + i = X.N ∧ y 0 = .slice ra X.N rc ∧ y 1 = .int .u8 (pg : Nat) ∧ y 2 = .string al ∧ y 7 = .int .i64 (tot X.L i : Nat) ∧ y 53 = .slice ra X.N rc ∧ y 54 = .int .i64 (X.N : Nat) ∧ y 55 = .int .i64 (i : Nat) ∧ Sg w0 w E (fun _ => none)) → J g a w) := hJk
  have HK3 : Hid (∀ a' w', Handed J g a' w' → K3 a' w') := hK3
  have HS : Hid (Sg w0 w1 E (fun _ => none)) := hS
  clear hJk hK3 hS
  refine wp_seq_hid (fun K4 HK4 => ?_)
  go_wp2
  refine HK4.out _ _ ?_
  clear HK4
  refine wp_seq_hid (fun K4 HK4 => ?_)
  refine hF.cond (by omega) rfl (fun hh => ?_) (fun hh => ?_)
  · have hi : i < X.N := by simpa using hh
    clear hh
    go_wp2
    refine HK4.out _ _ ?_
    clear HK4
    have hra := HA.out.a (by omega)
    rw [hra] at y53
    have k0 := old_cell HS.out.since (HA.out.c0 i hi)
    have k1 := old_cell HS.out.since (HA.out.c1 i hi)
    have k2 := old_cell HS.out.since (HA.out.c2 i hi)
    have hS2 := HS.out.newA #[.int .u8 (X.P i : Nat), .bool (X.rs i), .slice (ba i) (X.L i) (bc i)] 25 (50, 0, 0, 0) (n := 3) rfl
    have kn := hS2.val (lup_same _ _ _) (i := 2) (by omega)
    rw [lup_same] at kn
    have kn' : (w1.alloc (.cells #[.int .u8 (X.P i : Nat), .bool (X.rs i), .slice (ba i) (X.L i) (bc i)] 25)).cell? ⟨w1.heap.size, 2, none⟩ = some (.slice (ba i) (X.L i) (bc i)) := kn
    have HS2 : Hid (Sg w0 (w1.alloc (.cells #[.int .u8 (X.P i : Nat), .bool (X.rs i), .slice (ba i) (X.L i) (bc i)] 25)) E (fun _ => none)) := HS.out.alloc _
    have hL := HX.out.L i hi
    have hT := tot_le X.L HX.out.L (x := i) (by omega)
    have hT2 : i * (140737488351232 + 1) ≤ 4096 * (140737488351232 + 1) := Nat.mul_le_mul_right _ (by omega)
    obtain ⟨t, ht⟩ : ∃ t, t = tot X.L i := ⟨_, rfl⟩
    obtain ⟨l1, hl1⟩ : ∃ l1, l1 = X.L i + 1 := ⟨_, rfl⟩
    obtain ⟨t1, ht1⟩ : ∃ t1, t1 = tot X.L i + (X.L i + 1) := ⟨_, rfl⟩
    rw [← ht] at y7 hT
    have hw1 : IntKind.i64.wrap ((X.L i : Int) + 1) = (l1 : Int) := by rw [IntKind.wrap_i64] <;> omega
    have hw2 : IntKind.i64.wrap ((t : Int) + (l1 : Int)) = (t1 : Int) := by rw [IntKind.wrap_i64] <;> omega
    have HT1 : Hid (t1 = tot X.L (i + 1)) := ht1
    have HRA : Hid (ra = some ⟨rb, ro, none⟩) := hra
    clear hS2 kn ht hl1 ht1 hra
    refine wp_seq_hid (fun K4 HK4 => ?_)
    refine wp_block ?_
    refine wp_seq_hid (fun K5 HK5 => ?_)
    go_wp2
    refine HK5.out _ _ ?_
    clear HK5 k0 k1 k2
    generalize (w1.alloc (.cells #[.int .u8 (X.P i : Nat), .bool (X.rs i), .slice (ba i) (X.L i) (bc i)] 25)) = w2 at HS2 kn' ⊢
    go_wp2
    refine HK4.out _ _ ?_
    clear HK4 kn'
    go_wp2
    refine HK3.out _ _ ⟨g - 1, by omega, HJk.out _ _ _ ⟨_, rfl, i + 1, E, by omega, by simp [fup_at, y0], by simp [fup_at, y1], by simp [fup_at, y2], by rw [← HT1.out]; simp [fup_at], by rw [HRA.out]; simp [fup_at, y53], by simp [fup_at, y54], by simp [fup_at], HS2.out⟩⟩
  · have hi : i = X.N := by
      have : ¬ i < X.N := by simpa using hh
      omega
    subst hi
    clear hh HK3 HJk HK4
    go_wp2
    refine HK.out _ _ ?_
    clear HK
    refine wp_seq_hid (fun K HK => ?_)
    go_wp2
    refine hF.cond (by omega) rfl (fun hh => ?_) (fun hh => ?_)
    · clear HK hh
      go_wp2
      exact hF.ret (t := 6) (v := .bool true) rfl (by omega) (by simp [fup_at]) (HR.out w1 HS.out.since)
    · have htt : tot X.L X.N ≤ 32768 := by
        have : ¬ (32768 : Int) < (tot X.L X.N : Int) := by simpa using hh
        omega
      clear hh
      go_wp2
      refine HK.out _ _ ?_
      clear HK
      have hX := HX.out
      refine l11 hF (X := X) ⟨hNm, fun i hi => ?_, hX.P, hX.K, hX.S, hX.I, hX.O, hX.off⟩ HA.out (rc := rc) (al := al) hpg HS.out (by simp [fup_at, y0]) (by simp [fup_at, y1]) (by simp [fup_at, y2]) HR.out
      have := tot_ge X.L hi
      omega
/-- THE WALK: it answers true, and writes new memory only. -/
theorem law_any {X : Ain} (hX : Abd X) {w0 : World} {ra : Option Addr} {rb ro rc : Nat} {ba : Nat → Option Addr} {bc bb bo : Nat → Nat} (hA : Arg w0 X ra rb ro ba bc bb bo) {al : ByteArray} {pg : Nat} (hpg : pg < 256) :
    Calls Ybaz.prog 3 #[.slice ra X.N rc, .int .u8 (pg : Nat), .string al] w0 fun e w' => e = .returned (.bool true) ∧ w0.Since w0.heap.size w' := by
  refine calls_of_wp Ybaz.func3 rfl ?_
  rw [(frm_fr 559).of (Act.mk _ _) (by simp [Ybaz.ntmps3]) rfl]
  exact law0t (frm_fr 559) hX hA (rc := rc) (al := al) hpg (by simp) (by simp) (by simp) (fun w' h => ⟨rfl, h⟩)
end Go.Proofs.YbulkexmzaGreat
