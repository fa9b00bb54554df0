/-
  The law's input, as plain functions; what the law lays in memory.
-/
import Derived.Test.YbulkexmzaGreatPj
namespace Go.Proofs.YbulkexmzaGreat
open Go.RowKit
attribute [local go_sem] fup_at

/-- The first part of a seq. -/
def hd1 : Code → Code
  | .seq a _ => a
  | c => c
def litv (c : Array Value) : Nat → Value := fun s => c.getD s undef
section
variable {w0 w w' : World} {E E' : Lab → Nat} {B B' : Lab → Option Lb}
theorem Sg.newA (h : Sg w0 w E B) (c : Array Value) (t : TypeId) (k : Lab) {n : Nat} (hn : n = c.size) : Sg w0 (w.alloc (.cells c t)) (lup E k w.heap.size) (lup B k (some (vals t n (litv c)))) := by
  refine h.new c t k (vals t n (litv c)) rfl hn (fun i v hv => ?_)
  show v = litv c i
  unfold litv
  rw [Array.getD_eq_getD_getElem?, hv]
  rfl
theorem Sg.makeV (h : Sg w0 w E B) (z : Value) (n : Nat) (t : TypeId) (k : Lab) : Sg w0 (w.alloc (.cells (madeCells #[z] n) t)) (lup E k w.heap.size) (lup B k (some (vals t n (fun _ => z)))) := h.make z n t k
end
/-- The law's input. -/
structure Ain where
  N : Nat
  P : Nat → Nat
  rs : Nat → Bool
  L : Nat → Nat
  K : Nat → Nat → Nat
  S : Nat → Nat → Nat
  I : Nat → Nat → Nat
  O : Nat → Nat → Nat
def pkgs : Array Value := #[.string ⟨#[109, 97, 105, 110]⟩, .string ⟨#[115, 105, 110, 107]⟩, .string ⟨#[114, 117, 110, 116, 105, 109, 101]⟩]
def pkgn (k : Nat) : ByteArray := match k with
  | 0 => ⟨#[109, 97, 105, 110]⟩
  | 1 => ⟨#[115, 105, 110, 107]⟩
  | _ => ⟨#[114, 117, 110, 116, 105, 109, 101]⟩
theorem pkgs_at {k : Nat} (hk : k < 3) : litv pkgs k = .string (pkgn k) := by
  match k, hk with
  | 0, _ => rfl
  | 1, _ => rfl
  | 2, _ => rfl
def Ain.n (X : Ain) (i : Nat) : Nat := if X.L i = 0 then 1 else X.L i
def kdn (k : Nat) : Nat := if k % 3 = 0 then 0 else if k % 3 = 1 then 2 else 3
def Ain.fd (X : Ain) (i : Nat) : Fd where
  n := X.n i
  kd j := kdn (X.K i j)
  tg j := if X.K i j % 3 = 0 then some ((j + 1 + X.S i j) % X.n i) else none
  ki j := X.I i j % 4
  ps j := X.O i j % 3
def Ain.pin (X : Ain) : Pin where
  N := X.N
  d := X.fd
  pk i := pkgn (X.P i % 3)
  rs := X.rs
structure Aok (X : Ain) : Prop where
  N : X.N ≤ 4096
  L : ∀ i, i < X.N → X.L i ≤ 32768
  P : ∀ i, X.P i < 256
  K : ∀ i j, X.K i j < 256
  S : ∀ i j, X.S i j < 256
  I : ∀ i j, X.I i j < 256
  O : ∀ i j, X.O i j < 256
  off : ∀ i j, X.L i ≤ j → X.K i j = 1 ∧ X.S i j = 0 ∧ X.I i j = 0 ∧ X.O i j = 0
theorem Ain.n_pos (X : Ain) (i : Nat) : 0 < X.n i := by unfold Ain.n; split <;> omega
theorem Aok.n_le {X : Ain} (h : Aok X) {i : Nat} (hi : i < X.N) : X.n i ≤ 32768 := by
  have := h.L i hi
  unfold Ain.n; split <;> omega
theorem Aok.fdk {X : Ain} (h : Aok X) {i : Nat} (hi : i < X.N) : Fdk (X.fd i) := by
  refine ⟨X.n_pos i, by have := h.n_le hi; show X.n i ≤ 100000; omega, fun j => ?_, fun j => ?_, fun j t ht => ?_, fun j => ?_⟩
  · show kdn _ ≠ 1 ∧ kdn _ < 256
    unfold kdn; split
    · omega
    · split <;> omega
  · show kdn _ = 0 ↔ (if X.K i j % 3 = 0 then some ((j + 1 + X.S i j) % X.n i) else none) ≠ none
    unfold kdn
    by_cases e : X.K i j % 3 = 0
    · rw [if_pos e, if_pos e]; simp
    · rw [if_neg e, if_neg e]
      refine ⟨fun h => ?_, fun h => absurd rfl h⟩
      split at h <;> omega
  · have ht' : (if X.K i j % 3 = 0 then some ((j + 1 + X.S i j) % X.n i) else none) = some t := ht
    split at ht'
    · injection ht' with ht'
      rw [← ht']
      exact Nat.mod_lt _ (X.n_pos i)
    · cases ht'
  · show X.I i j % 4 ≤ 3
    omega
/-- The input in memory. -/
structure Arg (w : World) (X : Ain) (ra : Option Addr) (rb ro : Nat) (ba : Nat → Option Addr) (bc bb bo : Nat → Nat) : Prop where
  a : 0 < X.N → ra = some ⟨rb, ro, none⟩
  c0 : ∀ i, i < X.N → w.cell? ⟨rb, ro + i * 3, none⟩ = some (.int .u8 (X.P i : Nat))
  c1 : ∀ i, i < X.N → w.cell? ⟨rb, ro + i * 3 + 1, none⟩ = some (.bool (X.rs i))
  c2 : ∀ i, i < X.N → w.cell? ⟨rb, ro + i * 3 + 2, none⟩ = some (.slice (ba i) (X.L i) (bc i))
  b : ∀ i, i < X.N → 0 < X.L i → ba i = some ⟨bb i, bo i, none⟩
  d0 : ∀ i j, i < X.N → j < X.L i → w.cell? ⟨bb i, bo i + j * 4, none⟩ = some (.int .u8 (X.K i j : Nat))
  d1 : ∀ i j, i < X.N → j < X.L i → w.cell? ⟨bb i, bo i + j * 4 + 1, none⟩ = some (.int .u8 (X.S i j : Nat))
  d2 : ∀ i j, i < X.N → j < X.L i → w.cell? ⟨bb i, bo i + j * 4 + 2, none⟩ = some (.int .u8 (X.I i j : Nat))
  d3 : ∀ i j, i < X.N → j < X.L i → w.cell? ⟨bb i, bo i + j * 4 + 3, none⟩ = some (.int .u8 (X.O i j : Nat))
/-- A block as it is made. -/
def blk0 (j : Nat) : Nat → Value := litv #[.int .i64 (j : Nat), .slice none 0 0, .int .u8 0, .pointer none, .slice none 0 0, .int .i64 0]
/-- The target of block j, as the law notes it. -/
def tgi (d : Fd) (j : Nat) : Int := match d.tg j with
  | none => -1
  | some t => (t : Nat)
/-- What the snapshot of block j holds. -/
structure Snb (E : Lab → Nat) (B : Lab → Option Lb) (i : Nat) (d : Fd) (D : Nat → Value) (j : Nat) : Prop where
  iv : ∃ cap, Slg E B (13, i, j, 0) 50 (d.ki j) cap (qi E i (cat d.ki j j)) (D (j * 6 + 1))
  kd : D (j * 6 + 2) = .int .u8 (d.kd j : Nat)
  uv : ∃ cap l, Slg E B (14, i, j, 0) 40 l cap (fun _ u => ∃ t, d.tg j = some t ∧ u = .pointer (some ⟨E (10, i, t, 0), 0, none⟩)) (D (j * 6 + 4)) ∧ l = (if d.tg j = none then 0 else 1)
  ps : D (j * 6 + 5) = .int .i64 (d.ps j : Nat)
  id0 : D (j * 6) = .int .i64 (j : Nat)
  co3 : D (j * 6 + 3) = .pointer none
structure Snap (E : Lab → Nat) (B : Lab → Option Lb) (i : Nat) (d : Fd) : Prop where
  s3 : ∃ D, B (3, i, 0, 0) = some (vals 45 (d.n * 6) D) ∧ ∀ j, j < d.n → Snb E B i d D j
  s4 : ∃ T, B (4, i, 0, 0) = some (arr d.n T) ∧ ∀ j, j < d.n → T j = tgi d j
section
variable {E E' : Lab → Nat} {B B' : Lab → Option Lb} {i : Nat} {d : Fd}
theorem Snb.all {D : Nat → Value} {j : Nat} (h : Snb E B i d D j) (he : ∀ l : Lab, l.1 ≠ 0 → l.1 ≠ 7 → l.1 ≠ 8 → l.1 ≠ 11 → l.2.1 = i → E' l = E l) (hb : ∀ l : Lab, l.1 = 13 ∨ l.1 = 14 → l.2.1 = i → B' l = B l) : Snb E' B' i d D j := by
  refine ⟨?_, h.kd, ?_, h.ps, h.id0, h.co3⟩
  · obtain ⟨cap, h1⟩ := h.iv
    have : qi E' i (cat d.ki j j) = qi E i (cat d.ki j j) := by
      funext t u
      unfold qi xp
      have : ∀ a b, E' (20, i, a, b) = E (20, i, a, b) := fun a b => he _ (by simp) (by simp) (by simp) (by simp) rfl
      simp only [this]
    rw [this]
    exact ⟨cap, h1.congr (he _ (by simp) (by simp) (by simp) (by simp) rfl) (hb _ (.inl rfl) rfl)⟩
  · obtain ⟨cap, l, h1, h2⟩ := h.uv
    have : ∀ t, E' (10, i, t, 0) = E (10, i, t, 0) := fun t => he _ (by simp) (by simp) (by simp) (by simp) rfl
    simp only [this]
    exact ⟨cap, l, h1.congr (he _ (by simp) (by simp) (by simp) (by simp) rfl) (hb _ (.inr rfl) rfl), h2⟩
theorem Snap.all (h : Snap E B i d) (he : ∀ l : Lab, l.1 ≠ 0 → l.1 ≠ 7 → l.1 ≠ 8 → l.1 ≠ 11 → l.2.1 = i → E' l = E l) (hb : ∀ l : Lab, l.1 = 3 ∨ l.1 = 4 ∨ l.1 = 13 ∨ l.1 = 14 → l.2.1 = i → B' l = B l) : Snap E' B' i d := by
  obtain ⟨D, h1, h2⟩ := h.s3
  refine ⟨⟨D, by rw [hb _ (by simp) rfl]; exact h1, fun j hj => (h2 j hj).all he (fun l hl => hb l (by rcases hl with h | h <;> simp [h]))⟩, by
    obtain ⟨T, h3, h4⟩ := h.s4
    exact ⟨T, by rw [hb _ (by simp) rfl]; exact h3, h4⟩⟩
end
set_option maxHeartbeats 4000000 in
set_option maxRecDepth 100000 in
theorem b26 {F : (Nat → Value) → Act} (hF : Fr 559 F) {w0 w : World} {E : Lab → Nat} {B : Lab → Option Lb} {i n : Nat} {f : Nat → Value} {Q : Exit → Act → World → Prop} (hn : n ≤ 100000)
    (hS : Sg w0 w E B) (hb2 : B (2, i, 0, 0) = some (vals 40 n (fun _ => .pointer none))) (h21 : f 21 = .slice (some ⟨E (2, i, 0, 0), 0, none⟩) n n)
    (hQ : ∀ y w' E' B', (∀ s, s < 103 → s ≠ 22 → y s = f s) → Sg w0 w' E' B' → (∀ l : Lab, ¬ (l.1 = 10 ∧ l.2.1 = i) → E' l = E l) → (∀ l : Lab, ¬ (l.1 = 10 ∧ l.2.1 = i) → l ≠ (2, i, 0, 0) → B' l = B l) → B' (2, i, 0, 0) = some (bsr E' i n) → (∀ j, j < n → B' (10, i, j, 0) = some (vals 45 6 (blk0 j))) → Q .normal (F y) w') :
    (hd1 ((Ybaz.f3.body.bind (codeAt 26)).getD .skip)).wp Ybaz.prog Q (F f) w := by
  conv => arg 2; whnf
  have hget := hF.get
  have hmk := hF.up
  have HQ : Hid (∀ y w' E' B', (∀ s, s < 103 → s ≠ 22 → y s = f s) → Sg w0 w' E' B' → (∀ l : Lab, ¬ (l.1 = 10 ∧ l.2.1 = i) → E' l = E l) → (∀ l : Lab, ¬ (l.1 = 10 ∧ l.2.1 = i) → l ≠ (2, i, 0, 0) → B' l = B l) → B' (2, i, 0, 0) = some (bsr E' i n) → (∀ j, j < n → B' (10, i, j, 0) = some (vals 45 6 (blk0 j))) → Q .normal (F y) w') := hQ
  have HS : Hid (Sg w0 w E B) := hS
  have HB2 : Hid (B (2, i, 0, 0) = some (vals 40 n (fun _ => .pointer none))) := hb2
  clear hQ hS hb2
  refine wp_seq_hid (fun K HK => ?_)
  go_wp2
  refine HK.out _ _ ?_
  clear HK
  refine wp_block ?_
  refine wp_loop_ghost_k (fun g a w => ∃ y, a = F y ∧ ∃ x E' B' D, g + x = n ∧ (∀ s, s < 103 → s ≠ 22 → y s = f s) ∧ y 104 = .int .i64 (n : Nat) ∧ y 105 = .int .i64 (x : Nat) ∧ Sg w0 w E' B' ∧ (∀ l : Lab, ¬ (l.1 = 10 ∧ l.2.1 = i) → E' l = E l) ∧ (∀ l : Lab, ¬ (l.1 = 10 ∧ l.2.1 = i) → l ≠ (2, i, 0, 0) → B' l = B l) ∧ B' (2, i, 0, 0) = some (vals 40 n D) ∧ (∀ j, j < x → D j = .pointer (some ⟨E' (10, i, j, 0), 0, none⟩)) ∧ (∀ j, x ≤ j → D j = .pointer none) ∧ (∀ j, j < x → B' (10, i, j, 0) = some (vals 45 6 (blk0 j)))) n
    ⟨_, rfl, 0, E, B, fun _ => .pointer none, rfl, fun s hs _ => by
      simp only [fup_at]
      repeat rw [if_neg (by omega)], by simp [fup_at], by simp [fup_at], HS.out, fun _ _ => rfl, fun _ _ _ => rfl, HB2.out, fun j hj => absurd hj (Nat.not_lt_zero _), fun _ _ => rfl, fun j hj => absurd hj (Nat.not_lt_zero _)⟩ ?_
  clear HS HB2
  rintro g _ w1 ⟨y, rfl, x, E', B', D, hg, hy, y104, y105, hS, hE, hB, hb2, hD, hD0, hbk⟩ J K3 hJk hK3
  have HJk : Hid (∀ g a w, (∃ y, a = F y ∧ ∃ x E' B' D, g + x = n ∧ (∀ s, s < 103 → s ≠ 22 → y s = f s) ∧ y 104 = .int .i64 (n : Nat) ∧ y 105 = .int .i64 (x : Nat) ∧ Sg w0 w E' B' ∧ (∀ l : Lab, ¬ (l.1 = 10 ∧ l.2.1 = i) → E' l = E l) ∧ (∀ l : Lab, ¬ (l.1 = 10 ∧ l.2.1 = i) → l ≠ (2, i, 0, 0) → B' l = B l) ∧ B' (2, i, 0, 0) = some (vals 40 n D) ∧ (∀ j, j < x → D j = .pointer (some ⟨E' (10, i, j, 0), 0, none⟩)) ∧ (∀ j, x ≤ j → D j = .pointer none) ∧ (∀ j, j < x → B' (10, i, j, 0) = some (vals 45 6 (blk0 j)))) → J g a w) := hJk
  have HK3 : Hid (∀ a' w', Handed J g a' w' → K3 a' w') := hK3
  have HS : Hid (Sg w0 w1 E' B') := hS
  have HE : Hid (∀ l : Lab, ¬ (l.1 = 10 ∧ l.2.1 = i) → E' l = E l) := hE
  have HB : Hid (∀ l : Lab, ¬ (l.1 = 10 ∧ l.2.1 = i) → l ≠ (2, i, 0, 0) → B' l = B l) := hB
  have HB2 : Hid (B' (2, i, 0, 0) = some (vals 40 n D)) := hb2
  have HDD : Hid ((∀ j, j < x → D j = .pointer (some ⟨E' (10, i, j, 0), 0, none⟩)) ∧ (∀ j, x ≤ j → D j = .pointer none) ∧ (∀ j, j < x → B' (10, i, j, 0) = some (vals 45 6 (blk0 j)))) := ⟨hD, hD0, hbk⟩
  have HY : Hid (∀ s, s < 103 → s ≠ 22 → y s = f s) := hy
  have y21 := (hy 21 (by omega) (by omega)).trans h21
  clear hJk hK3 hS hE hB hb2 hD hD0 hbk hy
  refine wp_seq_hid (fun K4 HK4 => ?_)
  go_wp2
  refine HK4.out _ _ ?_
  clear HK4
  refine wp_seq_hid (fun K4 HK4 => ?_)
  refine hF.cond (by omega) rfl (fun hh => ?_) (fun hh => ?_)
  · have hx : x < n := by simpa using hh
    clear hh
    go_wp2
    refine HK4.out _ _ ?_
    clear HK4
    have hS2 := HS.out.newA #[.int .i64 (x : Nat), .slice none 0 0, .int .u8 0, .pointer none, .slice none 0 0, .int .i64 0] 45 (10, i, x, 0) (n := 6) rfl
    have e2 : E' (2, i, 0, 0) = E (2, i, 0, 0) := HE.out _ (by simp)
    have hb2' : lup B' (10, i, x, 0) (some (vals 45 6 (blk0 x))) (2, i, 0, 0) = some (vals 40 n D) := by rw [lup_other _ _ (by simp)]; exact HB2.out
    have l2 : lup E' (10, i, x, 0) w1.heap.size (2, i, 0, 0) = E (2, i, 0, 0) := by rw [lup_other _ _ (by simp)]; exact e2
    have kc := hS2.val hb2' hx
    have kf := hS2.frz hb2' x
    rw [l2] at kc kf
    have hS3 := hS2.setVal hb2' x (.pointer (some ⟨w1.heap.size, 0, none⟩))
    rw [l2] at hS3
    rw [HDD.out.2.1 x (Nat.le_refl _)] at kc
    have HS3 : Hid (Sg w0 ((w1.alloc (.cells #[.int .i64 (x : Nat), .slice none 0 0, .int .u8 0, .pointer none, .slice none 0 0, .int .i64 0] 45)).setCell ⟨E (2, i, 0, 0), x, none⟩ (.pointer (some ⟨w1.heap.size, 0, none⟩))) (lup E' (10, i, x, 0) w1.heap.size) (lup (lup B' (10, i, x, 0) (some (vals 45 6 (blk0 x)))) (2, i, 0, 0) (some (vals 40 n (upd D x (.pointer (some ⟨w1.heap.size, 0, none⟩))))))) := hS3
    clear hS3 hS2 hb2' l2
    refine wp_seq_hid (fun K4 HK4 => ?_)
    refine wp_block ?_
    refine wp_seq_hid (fun K5 HK5 => ?_)
    go_wp2
    refine HK5.out _ _ ?_
    clear HK5
    go_wp2
    refine HK4.out _ _ ?_
    clear HK4 kc kf
    go_wp2
    refine HK3.out _ _ ⟨g - 1, by omega, HJk.out _ _ _ ⟨_, rfl, x + 1, _, _, _, by omega, fun s hs h22 => ?_, by simp [fup_at, y104], by simp [fup_at], HS3.out, fun l hl => ?_, fun l hl h2 => ?_, lup_same _ _ _, fun j hj => ?_, fun j hj => ?_, fun j hj => ?_⟩⟩
    · simp only [fup_at]
      repeat rw [if_neg (by omega)]
      exact HY.out s hs h22
    · rw [lup_other _ _ (fun e => hl (by subst e; exact ⟨rfl, rfl⟩))]; exact HE.out l hl
    · rw [lup_other _ _ h2, lup_other _ _ (fun e => hl (by subst e; exact ⟨rfl, rfl⟩))]; exact HB.out l hl h2
    · by_cases e : j = x
      · subst e
        rw [upd_same, lup_same]
      · rw [upd_other _ _ e, lup_other _ _ (fun h => e (by injection h with _ h; injection h with _ h; injection h))]
        exact HDD.out.1 j (by omega)
    · rw [upd_other _ _ (by omega)]
      exact HDD.out.2.1 j (by omega)
    · rw [lup_other _ _ (by simp)]
      by_cases e : j = x
      · subst e; exact lup_same _ _ _
      · rw [lup_other _ _ (fun h => e (by injection h with _ h; injection h with _ h; injection h))]
        exact HDD.out.2.2 j (by omega)
  · have hx : x = n := by
      have : ¬ x < n := by simpa using hh
      omega
    subst hx
    clear hh HK3 HJk HK4
    go_wp2
    have h1 := HS.out.wkn HB2.out (bsr E' i x) rfl rfl (fun j u hj hu => by
      have hu' : u = D j := hu
      show u = _
      rw [hu', HDD.out.1 j hj])
    refine HQ.out _ _ E' _ (fun s hs h22 => ?_) h1 HE.out (fun l hl h2 => ?_) (lup_same _ _ _) (fun j hj => ?_)
    · simp only [fup_at]
      repeat rw [if_neg (by omega)]
      exact HY.out s hs h22
    · rw [lup_other _ _ h2]; exact HB.out l hl h2
    · rw [lup_other _ _ (by simp)]; exact HDD.out.2.2 j hj
end Go.Proofs.YbulkexmzaGreat
