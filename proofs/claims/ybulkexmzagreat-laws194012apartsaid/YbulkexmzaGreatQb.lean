/-
  The law: a block's instructions are made (regions 53 to 57).
-/
import Derived.Test.YbulkexmzaGreatQa
namespace Go.Proofs.YbulkexmzaGreat
open Go.RowKit
attribute [local go_sem] fup_at
/-- An instruction as it is made. -/
def ins0 (c : Nat) : Nat → Value := litv #[.int .u8 0, .pointer none, .slice none 0 0, .slice none 0 0, .int .i64 (c : Nat), .string ⟨#[]⟩, .pointer none, .int .i64 0, .int .i64 0]
theorem lab4 {a b c d a' b' c' d' : Nat} (h : ((a, b, c, d) : Lab) = (a', b', c', d')) : a = a' ∧ b = b' ∧ c = c' ∧ d = d' := by
  injection h with h1 h; injection h with h2 h; injection h with h3 h4
  exact ⟨h1, h2, h3, h4⟩
theorem qi_one {E : Lab → Nat} {i : Nat} {ki : Nat → Nat} {j t : Nat} {u : Value} (ht : t < ki j) (hu : u = .pointer (some ⟨E (20, i, j, t), 0, none⟩)) : qi E i (cat ki j j) t u := by
  refine ⟨(j, t), ?_, hu⟩
  rw [cat_one, List.getElem?_map, List.getElem?_range ht]
  rfl
theorem cat_one_len (ki : Nat → Nat) (j : Nat) : (cat ki j j).length = ki j := by rw [cat_one]; simp
set_option maxHeartbeats 4000000 in
set_option maxRecDepth 100000 in
theorem b53 {F : (Nat → Value) → Act} (hF : Fr 559 F) {w0 w : World} {E : Lab → Nat} {B : Lab → Option Lb} {i j k c : Nat} {D0 : Nat → Value} {f : Nat → Value} {Q : Exit → Act → World → Prop} (hk : k ≤ 3) (hc : c ≤ 1000000000)
    (hS : Sg w0 w E B) (hb : B (10, i, j, 0) = some (vals 45 6 D0)) (hD1 : D0 1 = .slice (some ⟨E (11, i, j, 0), 0, none⟩) k k) (hb11 : B (11, i, j, 0) = some (vals 50 k (fun _ => .pointer none)))
    (h17 : f 17 = .int .i64 (c : Nat)) (h27 : f 27 = .pointer (some ⟨E (10, i, j, 0), 0, none⟩)) (h29 : f 29 = .int .i64 (k : Nat))
    (hQ : ∀ y w' E' B', (∀ s, s < 187 → s ≠ 17 → s ≠ 30 → y s = f s) → y 17 = .int .i64 ((c + k : Nat) : Int) → Sg w0 w' E' B' → (∀ l : Lab, ¬ (l.1 = 20 ∧ l.2.1 = i ∧ l.2.2.1 = j) → E' l = E l) → (∀ l : Lab, ¬ (l.1 = 20 ∧ l.2.1 = i ∧ l.2.2.1 = j) → l ≠ (11, i, j, 0) → B' l = B l) → B' (11, i, j, 0) = some (gl 50 1 k k (fun t u => u = .pointer (some ⟨E' (20, i, j, t), 0, none⟩))) → (∀ t, t < k → ∃ cc, B' (20, i, j, t) = some (vals 55 9 (ins0 cc))) → Q .normal (F y) w') :
    (hd1 ((Ybaz.f3.body.bind (codeAt 53)).getD .skip)).wp Ybaz.prog Q (F f) w := by
  conv => arg 2; whnf
  have hget := hF.get
  have hmk := hF.up
  have HQ : Hid (∀ y w' E' B', (∀ s, s < 187 → s ≠ 17 → s ≠ 30 → y s = f s) → y 17 = .int .i64 ((c + k : Nat) : Int) → Sg w0 w' E' B' → (∀ l : Lab, ¬ (l.1 = 20 ∧ l.2.1 = i ∧ l.2.2.1 = j) → E' l = E l) → (∀ l : Lab, ¬ (l.1 = 20 ∧ l.2.1 = i ∧ l.2.2.1 = j) → l ≠ (11, i, j, 0) → B' l = B l) → B' (11, i, j, 0) = some (gl 50 1 k k (fun t u => u = .pointer (some ⟨E' (20, i, j, t), 0, none⟩))) → (∀ t, t < k → ∃ cc, B' (20, i, j, t) = some (vals 55 9 (ins0 cc))) → Q .normal (F y) w') := hQ
  have HS : Hid (Sg w0 w E B) := hS
  have HB10 : Hid (B (10, i, j, 0) = some (vals 45 6 D0)) := hb
  have HB11 : Hid (B (11, i, j, 0) = some (vals 50 k (fun _ => .pointer none))) := hb11
  have HD1 : Hid (D0 1 = .slice (some ⟨E (11, i, j, 0), 0, none⟩) k k) := hD1
  clear hQ hS hb hb11 hD1
  refine wp_seq_hid (fun K HK => ?_)
  go_wp2
  refine HK.out _ _ ?_
  clear HK
  refine wp_block ?_
  refine wp_loop_ghost_k (fun g a w => ∃ y, a = F y ∧ ∃ x E' B' D, g + x = k ∧ (∀ s, s < 187 → s ≠ 17 → s ≠ 30 → y s = f s) ∧ y 17 = .int .i64 ((c + x : Nat) : Int) ∧ y 30 = .int .i64 (x : Nat) ∧ Sg w0 w E' B' ∧ (∀ l : Lab, ¬ (l.1 = 20 ∧ l.2.1 = i ∧ l.2.2.1 = j) → E' l = E l) ∧ (∀ l : Lab, ¬ (l.1 = 20 ∧ l.2.1 = i ∧ l.2.2.1 = j) → l ≠ (11, i, j, 0) → B' l = B l) ∧ B' (11, i, j, 0) = some (vals 50 k D) ∧ (∀ t, t < x → D t = .pointer (some ⟨E' (20, i, j, t), 0, none⟩)) ∧ (∀ t, x ≤ t → D t = .pointer none) ∧ (∀ t, t < x → ∃ cc, B' (20, i, j, t) = some (vals 55 9 (ins0 cc)))) k
    ⟨_, rfl, 0, E, B, fun _ => .pointer none, rfl, fun s hs _ _ => by
      simp only [fup_at]
      repeat rw [if_neg (by omega)], by simp [fup_at, h17], by simp [fup_at], HS.out, fun _ _ => rfl, fun _ _ _ => rfl, HB11.out, fun j hj => absurd hj (Nat.not_lt_zero _), fun _ _ => rfl, fun j hj => absurd hj (Nat.not_lt_zero _)⟩ ?_
  clear HS HB11 h17
  rintro g _ w1 ⟨y, rfl, x, E', B', D, hg, hy, y17, y30, hS, hE, hB, hb2, hD, hD0, hbk⟩ J K3 hJk hK3
  have HJk : Hid (∀ g a w, (∃ y, a = F y ∧ ∃ x E' B' D, g + x = k ∧ (∀ s, s < 187 → s ≠ 17 → s ≠ 30 → y s = f s) ∧ y 17 = .int .i64 ((c + x : Nat) : Int) ∧ y 30 = .int .i64 (x : Nat) ∧ Sg w0 w E' B' ∧ (∀ l : Lab, ¬ (l.1 = 20 ∧ l.2.1 = i ∧ l.2.2.1 = j) → E' l = E l) ∧ (∀ l : Lab, ¬ (l.1 = 20 ∧ l.2.1 = i ∧ l.2.2.1 = j) → l ≠ (11, i, j, 0) → B' l = B l) ∧ B' (11, i, j, 0) = some (vals 50 k D) ∧ (∀ t, t < x → D t = .pointer (some ⟨E' (20, i, j, t), 0, none⟩)) ∧ (∀ t, x ≤ t → D t = .pointer none) ∧ (∀ t, t < x → ∃ cc, B' (20, i, j, t) = some (vals 55 9 (ins0 cc)))) → J g a w) := hJk
  have HK3 : Hid (∀ a' w', Handed J g a' w' → K3 a' w') := hK3
  have HS : Hid (Sg w0 w1 E' B') := hS
  have HE : Hid (∀ l : Lab, ¬ (l.1 = 20 ∧ l.2.1 = i ∧ l.2.2.1 = j) → E' l = E l) := hE
  have HB : Hid (∀ l : Lab, ¬ (l.1 = 20 ∧ l.2.1 = i ∧ l.2.2.1 = j) → l ≠ (11, i, j, 0) → B' l = B l) := hB
  have HB2 : Hid (B' (11, i, j, 0) = some (vals 50 k D)) := hb2
  have HDD : Hid ((∀ t, t < x → D t = .pointer (some ⟨E' (20, i, j, t), 0, none⟩)) ∧ (∀ t, x ≤ t → D t = .pointer none) ∧ (∀ t, t < x → ∃ cc, B' (20, i, j, t) = some (vals 55 9 (ins0 cc)))) := ⟨hD, hD0, hbk⟩
  have HY : Hid (∀ s, s < 187 → s ≠ 17 → s ≠ 30 → y s = f s) := hy
  have y27 := (hy 27 (by omega) (by omega) (by omega)).trans h27
  have y29 := (hy 29 (by omega) (by omega) (by omega)).trans h29
  clear hJk hK3 hS hE hB hb2 hD hD0 hbk hy
  obtain ⟨c1, hc1⟩ : ∃ c1, c1 = c + x := ⟨_, rfl⟩
  obtain ⟨c2, hc2⟩ : ∃ c2, c2 = c + x + 1 := ⟨_, rfl⟩
  rw [← hc1] at y17
  have hwr : IntKind.i64.wrap ((c1 : Int) + 1) = (c2 : Int) := by rw [IntKind.wrap_i64] <;> omega
  have hc3 : c2 = c + (x + 1) := by omega
  have HC2 : Hid (c2 = c + (x + 1)) := hc3
  have HC1 : Hid (c1 = c + x) := hc1
  clear hc1 hc2 hc3
  refine wp_seq_hid (fun K4 HK4 => ?_)
  go_wp2
  refine hF.cond (by omega) rfl (fun hh => ?_) (fun hh => ?_)
  · have hx : x < k := by simpa using hh
    clear hh
    go_wp2
    refine HK4.out _ _ ?_
    clear HK4
    have e10 : E' (10, i, j, 0) = E (10, i, j, 0) := HE.out _ (by simp)
    have k1 := HS.out.val ((HB.out (10, i, j, 0) (by simp) (by simp)).trans HB10.out) (i := 1) (by omega)
    rw [HD1.out, e10] at k1
    have hS2 := HS.out.newA #[.int .u8 0, .pointer none, .slice none 0 0, .slice none 0 0, .int .i64 (c2 : Nat), .string ⟨#[]⟩, .pointer none, .int .i64 0, .int .i64 0] 55 (20, i, j, x) (n := 9) rfl
    have e2 : E' (11, i, j, 0) = E (11, i, j, 0) := HE.out _ (by simp)
    have hb2' : lup B' (20, i, j, x) (some (vals 55 9 (ins0 c2))) (11, i, j, 0) = some (vals 50 k D) := by rw [lup_other _ _ (by simp)]; exact HB2.out
    have l2 : lup E' (20, i, j, x) w1.heap.size (11, i, j, 0) = E (11, i, j, 0) := by rw [lup_other _ _ (by simp)]; exact e2
    have kc := hS2.val hb2' hx
    have kf := hS2.frz hb2' x
    rw [l2] at kc kf
    have hS3 := hS2.setVal hb2' x (.pointer (some ⟨w1.heap.size, 0, none⟩))
    rw [l2] at hS3
    rw [HDD.out.2.1 x (Nat.le_refl _)] at kc
    have HS3 : Hid (Sg w0 ((w1.alloc (.cells #[.int .u8 0, .pointer none, .slice none 0 0, .slice none 0 0, .int .i64 (c2 : Nat), .string ⟨#[]⟩, .pointer none, .int .i64 0, .int .i64 0] 55)).setCell ⟨E (11, i, j, 0), x, none⟩ (.pointer (some ⟨w1.heap.size, 0, none⟩))) (lup E' (20, i, j, x) w1.heap.size) (lup (lup B' (20, i, j, x) (some (vals 55 9 (ins0 c2)))) (11, i, j, 0) (some (vals 50 k (upd D x (.pointer (some ⟨w1.heap.size, 0, none⟩))))))) := hS3
    clear hS3 hS2 hb2' l2
    refine wp_seq_hid (fun K4 HK4 => ?_)
    refine wp_block ?_
    refine wp_seq_hid (fun K5 HK5 => ?_)
    go_wp2
    refine HK5.out _ _ ?_
    clear HK5
    go_wp2
    refine HK4.out _ _ ?_
    clear HK4 kc kf k1
    go_wp2
    refine HK3.out _ _ ⟨g - 1, by omega, HJk.out _ _ _ ⟨_, rfl, x + 1, _, _, _, by omega, fun s hs h17 h30 => ?_, by rw [← HC2.out]; simp [fup_at], by simp [fup_at], HS3.out, fun l hl => ?_, fun l hl h2 => ?_, lup_same _ _ _, fun t ht => ?_, fun t ht => ?_, fun t ht => ?_⟩⟩
    · simp only [fup_at]
      repeat rw [if_neg (by omega)]
      exact HY.out s hs h17 h30
    · rw [lup_other _ _ (fun e => hl (by subst e; exact ⟨rfl, rfl, rfl⟩))]; exact HE.out l hl
    · rw [lup_other _ _ h2, lup_other _ _ (fun e => hl (by subst e; exact ⟨rfl, rfl, rfl⟩))]; exact HB.out l hl h2
    · by_cases e : t = x
      · subst e
        rw [upd_same, lup_same]
      · rw [upd_other _ _ e, lup_other _ _ (fun h => e (lab4 h).2.2.2)]
        exact HDD.out.1 t (by omega)
    · rw [upd_other _ _ (by omega)]
      exact HDD.out.2.1 t (by omega)
    · rw [lup_other _ _ (by simp)]
      by_cases e : t = x
      · subst e; exact ⟨c2, lup_same _ _ _⟩
      · rw [lup_other _ _ (fun h => e (lab4 h).2.2.2)]
        exact HDD.out.2.2 t (by omega)
  · have hx : x = k := by
      have : ¬ x < k := by simpa using hh
      omega
    subst hx
    clear hh HK3 HJk HK4
    go_wp2
    have h1 := HS.out.wkn HB2.out (gl 50 1 x x (fun t u => u = .pointer (some ⟨E' (20, i, j, t), 0, none⟩))) rfl (by show x * 1 = x; omega) (fun t u ht hu _ => by
      have hu' : u = D t := hu
      show u = _
      rw [hu', HDD.out.1 t ht])
    have hcx : c1 = c + x := HC1.out
    refine HQ.out _ _ E' _ (fun s hs h17 h30 => ?_) ?_ h1 HE.out (fun l hl h2 => ?_) (lup_same _ _ _) (fun t ht => ?_)
    · simp only [fup_at]
      repeat rw [if_neg (by omega)]
      exact HY.out s hs h17 h30
    · simp only [fup_at]
      repeat rw [if_neg (by omega)]
      rw [y17, hcx]
    · rw [lup_other _ _ h2]; exact HB.out l hl h2
    · rw [lup_other _ _ (by simp)]; exact HDD.out.2.2 t ht
end Go.Proofs.YbulkexmzaGreat
