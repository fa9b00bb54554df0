/-
  The law: a function is laid (regions 21 to 73).
-/
import Derived.Test.YbulkexmzaGreatQj
namespace Go.Proofs.YbulkexmzaGreat
open Go.RowKit
attribute [local go_sem] fup_at
theorem run_mk47 (n : Nat) (hn : n ≤ 100000) : ∃ X : Array Value, X.size = n * 6 ∧ ∀ w, (Instr.makeSlice 47 (.int .i64 (n : Nat)) (.int .i64 (n : Nat))).run Ybaz.prog w = .ok (.slice (some ⟨w.heap.size, 0, none⟩) n n) (w.alloc (.cells X 45)) := by
  have hi : ∃ i z, Ybaz.prog.info? 45 = some i ∧ i.zero = some z ∧ i.bytes ≤ 100 ∧ i.size = 6 := by
    have h : (match Ybaz.prog.info? 45 with
      | some i => i.zero.isSome && Nat.ble i.bytes 100 && Nat.beq i.size 6
      | none => false) = true := by kernel_rfl
    cases h1 : Ybaz.prog.info? 45 with
    | none => rw [h1] at h; cases h
    | some i =>
      rw [h1] at h
      simp only [Bool.and_eq_true, Nat.ble_eq, Nat.beq_eq] at h
      obtain ⟨z, hz⟩ := Option.isSome_iff_exists.1 h.1.1
      exact ⟨i, z, rfl, hz, h.1.2, h.2⟩
  obtain ⟨i, z, hi, hz, hb, hs⟩ := hi
  refine ⟨madeCells z.cells ((n : Int).toNat * i.size), ?_, fun w => ?_⟩
  · rw [hs]
    simp [madeCells]
  have hb2 : i.bytes * n ≤ 100 * 100000 := Nat.mul_le_mul hb hn
  have hb' : (i.bytes : Int) * (n : Int) ≤ 281474976710656 := by
    have h : ((i.bytes * n : Nat) : Int) ≤ 281474976710656 := by omega
    rwa [Int.natCast_mul] at h
  exact run_make (P := Ybaz.prog) w 47 45 i z Ybaz.underlying47 hi hz .i64 .i64 (n : Int) (n : Int) (by omega) (by omega) hb' (by omega)
set_option maxHeartbeats 4000000 in
set_option maxRecDepth 100000 in
theorem b21 {F : (Nat → Value) → Act} (hF : Fr 559 F) {X : Ain} (hX : Aok X) {w0 w : World} {ra : Option Addr} {rb ro rc : Nat} {ba : Nat → Option Addr} {bc bb bo : Nat → Nat} (hA : Arg w0 X ra rb ro ba bc bb bo) {E : Lab → Nat} {B : Lab → Option Lb} {al : ByteArray} {i c : Nat} {f : Nat → Value} {Q : Exit → Act → World → Prop} (hi : i < X.N) (hc : c ≤ 900000000)
    (hB : Bst w0 w E B X al i)
    (h10 : f 10 = .pointer (some ⟨E (0, 1, 0, 0), 0, none⟩)) (h12 : f 12 = .pointer (some ⟨E (0, 2, 0, 0), 0, none⟩)) (h13 : f 13 = .slice (some ⟨E (0, 3, 0, 0), 0, none⟩) X.N X.N) (h14 : f 14 = .slice (some ⟨E (0, 4, 0, 0), 0, none⟩) X.N X.N) (h15 : f 15 = .slice (some ⟨E (0, 5, 0, 0), 0, none⟩) X.N X.N) (h16 : f 16 = .slice (some ⟨E (0, 6, 0, 0), 0, none⟩) X.N X.N)
    (h17 : f 17 = .int .i64 (c : Nat)) (h89 : f 89 = .slice ra X.N rc) (h91 : f 91 = .int .i64 (i : Nat))
    (hQ : ∀ y w' E' B' c', (∀ s, s < 92 → s < 17 ∨ 31 < s → y s = f s) → y 17 = .int .i64 (c' : Nat) → c' ≤ c + 3 * X.n i → Bst w0 w' E' B' X al (i + 1) → (∀ l : Lab, l.1 = 0 → l ≠ (0, 7, 0, 0) → E' l = E l) → Q .normal (F y) w') :
    (hd1 ((Ybaz.f3.body.bind (codeAt 21)).getD .skip)).wp Ybaz.prog Q (F f) w := by
  conv => arg 2; whnf
  refine wp_block ?_
  have hget := hF.get
  have hmk := hF.up
  have HQ : Hid _ := hQ
  have HX : Hid (Aok X) := hX
  have HA : Hid (Arg w0 X ra rb ro ba bc bb bo) := hA
  have HB : Hid (Bst w0 w E B X al i) := hB
  have hnm := hX.n_le hi
  obtain rfl := hA.a (by omega)
  have k0 := old_cell hB.sg.since (hA.c0 i hi)
  have k1 := old_cell hB.sg.since (hA.c1 i hi)
  have k2 := old_cell hB.sg.since (hA.c2 i hi)
  clear hQ hX hA hB
  refine wp_seq_hid (fun K HK => ?_)
  go_wp2
  refine HK.out _ _ ?_
  clear HK k0 k1 k2
  have hS1 := HB.out.sg.newA #[.int .u8 (X.P i : Nat), .bool (X.rs i), .slice (ba i) (X.L i) (bc i)] 25 (9, i, 0, 0) (n := 3) rfl
  obtain ⟨E1, hE1⟩ : ∃ E1, E1 = lup E (9, i, 0, 0) w.heap.size := ⟨_, rfl⟩
  obtain ⟨B1, hB1⟩ : ∃ B1, B1 = lup B (9, i, 0, 0) (some (vals 25 3 (fdv (X.P i) (X.rs i) (ba i) (X.L i) (bc i)))) := ⟨_, rfl⟩
  have e1 : w.heap.size = E1 (9, i, 0, 0) := by rw [hE1, lup_same]
  have hS1 : Sg w0 (w.alloc (.cells #[.int .u8 (X.P i : Nat), .bool (X.rs i), .slice (ba i) (X.L i) (bc i)] 25)) E1 B1 := by rw [hE1, hB1]; exact hS1
  rw [e1]
  have HS1 : Hid (Sg w0 (w.alloc (.cells #[.int .u8 (X.P i : Nat), .bool (X.rs i), .slice (ba i) (X.L i) (bc i)] 25)) E1 B1) := hS1
  have HE1 : Hid (∀ l : Lab, l.1 = 0 ∨ l.2.1 ≠ i → E1 l = E l) := fun l hl => by rw [hE1, lup_other _ _ (fun e => by subst e; simp at hl)]
  have HB1 : Hid (∀ l : Lab, l.1 = 0 ∨ l.2.1 ≠ i → B1 l = B l) := fun l hl => by rw [hB1, lup_other _ _ (fun e => by subst e; simp at hl)]
  have HB9 : Hid (B1 (9, i, 0, 0) = some (vals 25 3 (fdv (X.P i) (X.rs i) (ba i) (X.L i) (bc i)))) := by rw [hB1]; exact lup_same _ _ _
  clear hS1 hE1 hB1 e1
  generalize w.alloc (.cells #[.int .u8 (X.P i : Nat), .bool (X.rs i), .slice (ba i) (X.L i) (bc i)] 25) = w1 at HS1 ⊢
  have k2 : w1.cell? ⟨E1 (9, i, 0, 0), 2, none⟩ = some (.slice (ba i) (X.L i) (bc i)) := HS1.out.val HB9.out (i := 2) (by omega)
  refine wp_seq_hid (fun K HK => ?_)
  go_wp2
  refine HK.out _ _ ?_
  clear HK k2
  refine wp_seq_hid (fun K HK => ?_)
  have HNX : Hid (∀ y, (∀ s, s < 92 → s ≠ 18 → s ≠ 19 → s ≠ 20 → y s = f s) → y 18 = .int .i64 (i : Nat) → y 19 = .pointer (some ⟨E1 (9, i, 0, 0), 0, none⟩) → y 20 = .int .i64 (X.n i : Nat) → K (F y) w1) := by
    intro y hy y18 y19 y20
    refine HK.out _ _ ?_
    clear HK
    have HY : Hid (∀ s, s < 92 → s ≠ 18 → s ≠ 19 → s ≠ 20 → y s = f s) := hy
    clear hy
    have hm39 := run_mk mty39 (X.n i) (X.n i) (Nat.le_refl _) (by omega)
    refine wp_seq_hid (fun K2 HK2 => ?_)
    go_wp2
    refine HK2.out _ _ ?_
    clear HK2 hm39
    have hS2 := HS1.out.makeV (.pointer none) (X.n i) 40 (2, i, 0, 0)
    obtain ⟨E2, hE2⟩ : ∃ E2, E2 = lup E1 (2, i, 0, 0) w1.heap.size := ⟨_, rfl⟩
    obtain ⟨B2, hB2⟩ : ∃ B2, B2 = lup B1 (2, i, 0, 0) (some (vals 40 (X.n i) (fun _ => .pointer none))) := ⟨_, rfl⟩
    have e2 : w1.heap.size = E2 (2, i, 0, 0) := by rw [hE2, lup_same]
    rw [← hE2, ← hB2] at hS2
    rw [e2]
    have b2 : B2 (2, i, 0, 0) = some (vals 40 (X.n i) (fun _ => .pointer none)) := by rw [hB2, lup_same]
    have o2 : ∀ l : Lab, l ≠ (2, i, 0, 0) → E2 l = E1 l := fun l hl => by rw [hE2, lup_other _ _ hl]
    have p2 : ∀ l : Lab, l ≠ (2, i, 0, 0) → B2 l = B1 l := fun l hl => by rw [hB2, lup_other _ _ hl]
    clear hE2 hB2 e2
    refine wp_seq_hid (fun K2 HK2 => ?_)
    refine b26 hF (i := i) (n := X.n i) (by omega) hS2 b2 (by simp [fup_at]) ?_
    intro y3 w3 E3 B3 hy3 hS3 hE3 hB3 hb32 hb310
    refine HK2.out _ _ ?_
    clear HK2
    have HY3 : Hid (∀ s, s < 92 → s ≠ 18 → s ≠ 19 → s ≠ 20 → s ≠ 21 → s ≠ 22 → y3 s = f s) := fun s h1 h2 h3 h4 h5 h6 => by
      rw [hy3 s (by omega) h6]
      simp only [fup_at]; repeat rw [if_neg (by omega)]
      exact HY.out s h1 h2 h3 h4
    have z18 : y3 18 = .int .i64 (i : Nat) := (hy3 18 (by omega) (by omega)).trans (by simp [fup_at, y18])
    have z19 : y3 19 = .pointer (some ⟨E1 (9, i, 0, 0), 0, none⟩) := (hy3 19 (by omega) (by omega)).trans (by simp [fup_at, y19])
    have z20 : y3 20 = .int .i64 (X.n i : Nat) := (hy3 20 (by omega) (by omega)).trans (by simp [fup_at, y20])
    have z21 : y3 21 = .slice (some ⟨E2 (2, i, 0, 0), 0, none⟩) (X.n i) (X.n i) := (hy3 21 (by omega) (by omega)).trans (by simp [fup_at])
    have HS3 : Hid (Sg w0 w3 E3 B3) := hS3
    have HE3 : Hid (∀ l : Lab, l.1 = 0 ∨ l.2.1 ≠ i → E3 l = E l) := fun l hl => by
      rw [hE3 l (fun h => by rcases hl with hl | hl <;> simp_all), o2 l (fun e => by subst e; simp at hl)]; exact HE1.out l hl
    have HB3 : Hid (∀ l : Lab, l.1 = 0 ∨ l.2.1 ≠ i → B3 l = B l) := fun l hl => by
      rw [hB3 l (fun h => by rcases hl with hl | hl <;> simp_all) (fun e => by subst e; simp at hl), p2 l (fun e => by subst e; simp at hl)]; exact HB1.out l hl
    have HB39 : Hid (B3 (9, i, 0, 0) = some (vals 25 3 (fdv (X.P i) (X.rs i) (ba i) (X.L i) (bc i)))) := by
      show _
      rw [hB3 _ (by simp) (by simp), p2 _ (by simp)]; exact HB9.out
    have q9 : E3 (9, i, 0, 0) = E1 (9, i, 0, 0) := by rw [hE3 _ (by simp), o2 _ (by simp)]
    have q2 : E3 (2, i, 0, 0) = E2 (2, i, 0, 0) := hE3 _ (by simp)
    rw [← q9] at z19
    rw [← q2] at z21
    have HB32 : Hid (B3 (2, i, 0, 0) = some (bsr E3 i (X.n i))) := hb32
    have HB310 : Hid (∀ j, j < X.n i → B3 (10, i, j, 0) = some (vals 45 6 (blk0 j))) := hb310
    clear hS3 hE3 hB3 hb32 hb310 hS2 b2 o2 p2 q9 q2 y18 y19 y20 hy3 HY
    -- tg, sn
    have hm46 := run_mk mty46 (X.n i) (X.n i) (Nat.le_refl _) (by omega)
    refine wp_seq_hid (fun K2 HK2 => ?_)
    go_wp2
    refine HK2.out _ _ ?_
    clear HK2 hm46
    have hS4 := HS3.out.makeV (.int .i64 0) (X.n i) 3 (4, i, 0, 0)
    obtain ⟨E4, hE4⟩ : ∃ E4, E4 = lup E3 (4, i, 0, 0) w3.heap.size := ⟨_, rfl⟩
    obtain ⟨B4, hB4⟩ : ∃ B4, B4 = lup B3 (4, i, 0, 0) (some (vals 3 (X.n i) (fun _ => .int .i64 0))) := ⟨_, rfl⟩
    have e4 : w3.heap.size = E4 (4, i, 0, 0) := by rw [hE4, lup_same]
    rw [← hE4, ← hB4] at hS4
    rw [e4]
    have HS4 : Hid (Sg w0 (w3.alloc (.cells (madeCells #[.int .i64 0] (X.n i)) 3)) E4 B4) := hS4
    have HE4 : Hid (∀ l : Lab, l ≠ (4, i, 0, 0) → E4 l = E3 l) := fun l hl => by rw [hE4, lup_other _ _ hl]
    have HB4 : Hid (∀ l : Lab, l ≠ (4, i, 0, 0) → B4 l = B3 l) := fun l hl => by rw [hB4, lup_other _ _ hl]
    have HB44 : Hid (B4 (4, i, 0, 0) = some (arr (X.n i) (fun _ => 0))) := by rw [hB4, lup_same]; rfl
    clear hS4 hE4 hB4 e4
    generalize w3.alloc (.cells (madeCells #[.int .i64 0] (X.n i)) 3) = w4 at HS4 ⊢
    obtain ⟨Xs, hXs, hm47⟩ := run_mk47 (X.n i) (by omega)
    refine wp_seq_hid (fun K2 HK2 => ?_)
    go_wp2
    refine HK2.out _ _ ?_
    clear HK2 hm47
    have hS5 := HS4.out.newA Xs 45 (3, i, 0, 0) (n := X.n i * 6) hXs.symm
    obtain ⟨E5, hE5⟩ : ∃ E5, E5 = lup E4 (3, i, 0, 0) w4.heap.size := ⟨_, rfl⟩
    obtain ⟨B5, hB5⟩ : ∃ B5, B5 = lup B4 (3, i, 0, 0) (some (vals 45 (X.n i * 6) (litv Xs))) := ⟨_, rfl⟩
    have e5 : w4.heap.size = E5 (3, i, 0, 0) := by rw [hE5, lup_same]
    rw [← hE5, ← hB5] at hS5
    rw [e5]
    have o5 : ∀ l : Lab, l ≠ (3, i, 0, 0) → E5 l = E4 l := fun l hl => by rw [hE5, lup_other _ _ hl]
    have p5 : ∀ l : Lab, l ≠ (3, i, 0, 0) → B5 l = B4 l := fun l hl => by rw [hB5, lup_other _ _ hl]
    have b53 : B5 (3, i, 0, 0) = some (vals 45 (X.n i * 6) (litv Xs)) := by rw [hB5, lup_same]
    clear hE5 hB5 e5
    generalize w4.alloc (.cells Xs 45) = w5 at hS5 ⊢
    have u : ∀ a b, a ≠ 3 → a ≠ 4 → E5 (a, i, b, 0) = E3 (a, i, b, 0) := fun a b h3 h4 => by rw [o5 _ (fun e => h3 (lab4 e).1)]; exact HE4.out _ (fun e => h4 (lab4 e).1)
    have v : ∀ a b, a ≠ 3 → a ≠ 4 → B5 (a, i, b, 0) = B3 (a, i, b, 0) := fun a b h3 h4 => by rw [p5 _ (fun e => h3 (lab4 e).1)]; exact HB4.out _ (fun e => h4 (lab4 e).1)
    have hbs : bsr E5 i (X.n i) = bsr E3 i (X.n i) := by unfold bsr; congr 1; funext t; rw [u 10 t (by omega) (by omega)]
    have b52 : B5 (2, i, 0, 0) = some (bsr E5 i (X.n i)) := by rw [v 2 0 (by omega) (by omega), hbs]; exact HB32.out
    have b59 : B5 (9, i, 0, 0) = some (vals 25 3 (fdv (X.P i) (X.rs i) (ba i) (X.L i) (bc i))) := by rw [v 9 0 (by omega) (by omega)]; exact HB39.out
    have hBls : Bls w0 w5 E5 B5 E5 B5 i (X.fd i) 0 (litv Xs) (fun _ => 0) := by
      refine ⟨hS5, fun _ _ => rfl, fun _ _ _ _ _ => rfl, fun j hj => absurd hj (Nat.not_lt_zero _), fun j _ hj => ?_, ?_, fun j hj => absurd hj (Nat.not_lt_zero _), b53⟩
      · rw [v 10 j (by omega) (by omega)]; exact HB310.out j hj
      · rw [p5 _ (by simp)]; exact HB44.out
    have q4 : E5 (4, i, 0, 0) = E4 (4, i, 0, 0) := o5 _ (by simp)
    refine wp_seq_hid (fun K2 HK2 => ?_)
    refine b33 hF HX.out HA.out (i := i) (c := c) hi hc hBls b52 b59 (by simp [fup_at]; rw [HY3.out 17 (by omega) (by omega) (by omega) (by omega) (by omega) (by omega)]; exact h17) (by rw [u 9 0 (by omega) (by omega)]; simp [fup_at, z19]) (by simp [fup_at, z20]) (by rw [u 2 0 (by omega) (by omega)]; simp [fup_at, z21]) (by rw [q4]; simp [fup_at]) (by simp [fup_at]) ?_
    intro y6 w6 E6 B6 D6 T6 c6 hy6 y617 hc6 hB6
    refine HK2.out _ _ ?_
    clear HK2
    have E6z : ∀ l : Lab, l.1 = 0 ∨ l.2.1 ≠ i → E6 l = E l := fun l hl => by
      have n1 : ¬ T33 i l := fun h => by
        have h2 := h.2
        rcases hl with h1 | h1
        · rw [h1] at h2; simp at h2
        · exact h1 h.1
      have n2 : ∀ a, a ≠ 0 → l ≠ (a, i, 0, 0) := fun a ha e => by subst e; simp [ha] at hl
      rw [hB6.he l n1, o5 l (n2 3 (by omega)), HE4.out l (n2 4 (by omega))]; exact HE3.out l hl
    have B6z : ∀ l : Lab, l.1 = 0 ∨ l.2.1 ≠ i → B6 l = B l := fun l hl => by
      have n1 : ¬ T33 i l := fun h => by
        have h2 := h.2
        rcases hl with h1 | h1
        · rw [h1] at h2; simp at h2
        · exact h1 h.1
      have n2 : ∀ a, a ≠ 0 → l ≠ (a, i, 0, 0) := fun a ha e => by subst e; simp [ha] at hl
      have n3 : ¬ (l.2.1 = i ∧ l.1 = 10) := fun h => by
        rcases hl with h1 | h1
        · rw [h1] at h; simp at h
        · exact h1 h.1
      rw [hB6.hb l n1 n3 (n2 3 (by omega)) (n2 4 (by omega)), p5 l (n2 3 (by omega)), HB4.out l (n2 4 (by omega))]; exact HB3.out l hl
    have t2 : ∀ a, a = 2 ∨ a = 3 ∨ a = 4 ∨ a = 9 ∨ a = 10 → ∀ b, E6 (a, i, b, 0) = E5 (a, i, b, 0) := fun a ha b => hB6.he _ (by unfold T33; simp; omega)
    have hb62 : B6 (2, i, 0, 0) = some (bsr E6 i (X.n i)) := by
      have : bsr E6 i (X.n i) = bsr E5 i (X.n i) := by unfold bsr; congr 1; funext t; rw [t2 10 (by simp)]
      rw [hB6.hb _ (by unfold T33; simp) (by simp) (by simp) (by simp), this]; exact b52
    have hb69 : B6 (9, i, 0, 0) = some (vals 25 3 (fdv (X.P i) (X.rs i) (ba i) (X.L i) (bc i))) := by
      rw [hB6.hb _ (by unfold T33; simp) (by simp) (by simp) (by simp)]; exact b59
    have hBk : Bst w0 w6 E6 B6 X al i := HB.out.keep hB6.sg (fun l h => E6z l (by rcases h with h | h; exact .inl h; exact .inr (by omega))) (fun l h => B6z l (by rcases h with h | h; exact .inl h; exact .inr (by omega)))
    have z : ∀ a, E6 (0, a, 0, 0) = E (0, a, 0, 0) := fun a => E6z _ (.inl rfl)
    have yk : ∀ s, s < 92 → s < 17 ∨ 31 < s → y6 s = f s := fun s h1 h2 => by
      rw [hy6 s (by omega) (by omega) (by omega) (by omega) (by omega) (by omega) (by omega) (by omega)]
      simp only [fup_at]; repeat rw [if_neg (by omega)]
      exact HY3.out s h1 (by omega) (by omega) (by omega) (by omega) (by omega)
    refine b66 hF HX.out hi hBk (hB6.fpr hb62) hb69 (by rw [z, yk 10 (by omega) (by omega)]; exact h10) (by rw [z, yk 12 (by omega) (by omega)]; exact h12) (by rw [z, yk 13 (by omega) (by omega)]; exact h13) (by rw [z, yk 14 (by omega) (by omega)]; exact h14) (by rw [z, yk 15 (by omega) (by omega)]; exact h15) (by rw [z, yk 16 (by omega) (by omega)]; exact h16) ?_ ?_ ?_ ?_ ?_ ?_
    · rw [hy6 18 (by omega) (by omega) (by omega) (by omega) (by omega) (by omega) (by omega) (by omega)]; simp [fup_at, z18]
    · rw [t2 9 (by simp), u 9 0 (by omega) (by omega), hy6 19 (by omega) (by omega) (by omega) (by omega) (by omega) (by omega) (by omega) (by omega)]; simp [fup_at, z19]
    · rw [t2 2 (by simp), u 2 0 (by omega) (by omega), hy6 21 (by omega) (by omega) (by omega) (by omega) (by omega) (by omega) (by omega) (by omega)]; simp [fup_at, z21]
    · rw [t2 4 (by simp), q4, hy6 23 (by omega) (by omega) (by omega) (by omega) (by omega) (by omega) (by omega) (by omega)]; simp [fup_at]
    · rw [t2 3 (by simp), hy6 24 (by omega) (by omega) (by omega) (by omega) (by omega) (by omega) (by omega) (by omega)]; simp [fup_at]
    · intro y7 w7 E7 B7 hy7 hb7 hE7
      refine HQ.out y7 w7 E7 B7 c6 (fun s h1 h2 => ?_) ?_ hc6 hb7 (fun l h0 h7 => ?_)
      · rw [hy7 s (by omega) (by omega)]; exact yk s h1 h2
      · rw [hy7 17 (by omega) (by omega)]; exact y617
      · rw [hE7 l (fun e => by subst e; simp at h0) (fun e => by subst e; simp at h0) (fun e => by subst e; simp at h0) h7]; exact E6z l (.inl h0)
  go_wp2
  refine hF.cond (by omega) rfl (fun hh => ?_) (fun hh => ?_)
  · have hL : X.L i = 0 := by simpa using hh
    clear hh
    go_wp2
    refine HNX.out _ (fun s h1 h2 h3 h4 => ?_) (by simp [fup_at]) (by simp [fup_at]) (by simp [fup_at, Ain.n, hL])
    simp only [fup_at]; repeat rw [if_neg (by omega)]
  · have hL : ¬ X.L i = 0 := by simpa using hh
    have hLn : X.n i = X.L i := by unfold Ain.n; rw [if_neg hL]
    have HLn : Hid (X.n i = X.L i) := hLn
    clear hh hLn
    go_wp2
    refine HNX.out _ (fun s h1 h2 h3 h4 => ?_) (by simp [fup_at]) (by simp [fup_at]) (by rw [HLn.out]; simp [fup_at])
    simp only [fup_at]; repeat rw [if_neg (by omega)]
end Go.Proofs.YbulkexmzaGreat
