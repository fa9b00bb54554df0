/-
  The law: a function is noted in the tables (regions 69 to 73).
-/
import Derived.Test.YbulkexmzaGreatQg
namespace Go.Proofs.YbulkexmzaGreat
open Go.RowKit
attribute [local go_sem] fup_at
/-- The functions' parts but for their struct. -/
structure Fpr (E : Lab → Nat) (B : Lab → Option Lb) (i : Nat) (d : Fd) : Prop where
  fx : Fx E B i d
  bs : B (2, i, 0, 0) = some (bsr E i d.n)
  blk : ∀ j, j < d.n → BlkOk E E B i d j j j
  sn : Snap E B i d
def Lfp (l : Lab) : Prop := l.1 ≠ 0 ∧ l.1 ≠ 1 ∧ l.1 ≠ 5 ∧ l.1 ≠ 6
section
variable {E E' : Lab → Nat} {B B' : Lab → Option Lb} {i : Nat} {d : Fd} {pk : ByteArray} {rv : Value}
theorem Fpr.all (h : Fpr E B i d) (he : ∀ l : Lab, Lfp l → l.2.1 = i → E' l = E l) (hb : ∀ l : Lab, Lfp l → l.2.1 = i → B' l = B l) : Fpr E' B' i d := by
  refine ⟨h.fx.congr (fun t => he _ (by unfold Lfp; simp) rfl) (fun e => hb _ (by unfold Lfp; simp) rfl) (fun a b => hb _ (by unfold Lfp; simp) rfl), ?_, fun j hj => ?_, ?_⟩
  · rw [hb _ (by unfold Lfp; simp) rfl, h.bs]
    unfold bsr
    congr 2
    funext j
    rw [he _ (by unfold Lfp; simp) rfl]
  · exact ((h.blk j hj).congr (he _ (by unfold Lfp; simp) rfl) (hb _ (by unfold Lfp; simp) rfl) (hb _ (by unfold Lfp; simp) rfl)).ptr (he _ (by unfold Lfp; simp) rfl) (fun a b => he _ (by unfold Lfp; simp) rfl)
  · obtain ⟨D, h1, h2⟩ := h.sn.s3
    refine ⟨⟨D, by rw [hb _ (by unfold Lfp; simp) rfl]; exact h1, fun j hj => (h2 j hj).step (fun a b ha => he _ (by unfold Lfp; simp only; omega) rfl) (fun t => he _ (by unfold Lfp; simp) rfl) (fun a ha => hb _ (by unfold Lfp; simp only; omega) rfl) (fun _ _ _ => rfl)⟩, by
      obtain ⟨T, h3, h4⟩ := h.sn.s4
      exact ⟨T, by rw [hb _ (by unfold Lfp; simp) rfl]; exact h3, h4⟩⟩
theorem Bls.fpr {w0 w : World} {E0 : Lab → Nat} {B0 : Lab → Option Lb} {D : Nat → Value} {T : Nat → Int} (h : Bls w0 w E0 B0 E B i d d.n D T) (h2 : B (2, i, 0, 0) = some (bsr E i d.n)) : Fpr E B i d := by
  refine ⟨⟨fun e t he ht => (h.dn e he).1.su t ht, fun j t hj ht => ?_⟩, h2, fun j hj => (h.dn j hj).1.blk, ⟨⟨D, h.b3, fun j hj => (h.dn j hj).2⟩, T, h.b4, h.t4⟩⟩
  · obtain ⟨c, hc⟩ := (h.dn j hj).1.xi t ht
    exact ⟨9, ins0 c, by omega, hc, rfl, rfl, rfl, rfl⟩
end
/-- What is laid of the first i functions. -/
structure Bst (w0 w : World) (E : Lab → Nat) (B : Lab → Option Lb) (X : Ain) (al : ByteArray) (i : Nat) : Prop where
  sg : Sg w0 w E B
  g1 : B (0, 1, 0, 0) = some (vals 26 3 (litv pkgs))
  g2 : ∃ Dp v cap, B (0, 2, 0, 0) = some (vals 34 8 Dp) ∧ Dp 1 = v ∧ Dp 7 = .string al ∧ Slg E B (0, 7, 0, 0) 56 i cap (fun j u => u = .pointer (some ⟨E (1, j, 0, 0), 0, none⟩)) v
  g3 : ∃ pv, B (0, 3, 0, 0) = some (vals 39 X.N pv) ∧ ∀ j, j < i → ∃ cap, Slg E B (5, j, 0, 0) 40 (X.n j) cap (fun t u => u = .pointer (some ⟨E (10, j, t, 0), 0, none⟩)) (pv j)
  g4 : ∃ sv, B (0, 4, 0, 0) = some (vals 47 X.N sv) ∧ ∀ j, j < i → sv j = .slice (some ⟨E (3, j, 0, 0), 0, none⟩) (X.n j) (X.n j)
  g5 : ∃ tv, B (0, 5, 0, 0) = some (vals 46 X.N tv) ∧ ∀ j, j < i → tv j = .slice (some ⟨E (4, j, 0, 0), 0, none⟩) (X.n j) (X.n j)
  g6 : ∃ rv, B (0, 6, 0, 0) = some (vals 50 X.N rv) ∧ ∀ j, j < i → rv j = X.pin.rv E j
  fo : ∀ j, j < i → Fpr E B j (X.fd j) ∧ FnS B j (pkgn (X.P j % 3)) (X.pin.rv E j) (.slice (some ⟨E (2, j, 0, 0), 0, none⟩) (X.n j) (X.n j))
/-- .. what the tables and functions are, as long as what holds them is not turned. -/
theorem Bst.keep {w0 w w' : World} {E E' : Lab → Nat} {B B' : Lab → Option Lb} {X : Ain} {al : ByteArray} {i : Nat} (h : Bst w0 w E B X al i) (hS : Sg w0 w' E' B') (he : ∀ l : Lab, l.1 = 0 ∨ l.2.1 < i → E' l = E l) (hb : ∀ l : Lab, l.1 = 0 ∨ l.2.1 < i → B' l = B l) : Bst w0 w' E' B' X al i := by
  refine ⟨hS, by rw [hb _ (.inl rfl)]; exact h.g1, ?_, ?_, ?_, ?_, ?_, fun j hj => ?_⟩
  · obtain ⟨Dp, v, cap, h1, h2, h3, h4⟩ := h.g2
    refine ⟨Dp, v, cap, by rw [hb _ (.inl rfl)]; exact h1, h2, h3, (h4.congr (he _ (.inl rfl)) (hb _ (.inl rfl))).qcongr (fun t u ht => ?_)⟩
    rw [he _ (.inr ht)]
  · obtain ⟨pv, h1, h2⟩ := h.g3
    refine ⟨pv, by rw [hb _ (.inl rfl)]; exact h1, fun j hj => ?_⟩
    obtain ⟨cap, h3⟩ := h2 j hj
    refine ⟨cap, (h3.congr (he _ (.inr hj)) (hb _ (.inr hj))).qcongr (fun t u ht => ?_)⟩
    rw [he _ (.inr hj)]
  · obtain ⟨sv, h1, h2⟩ := h.g4
    exact ⟨sv, by rw [hb _ (.inl rfl)]; exact h1, fun j hj => by rw [he _ (.inr hj)]; exact h2 j hj⟩
  · obtain ⟨sv, h1, h2⟩ := h.g5
    exact ⟨sv, by rw [hb _ (.inl rfl)]; exact h1, fun j hj => by rw [he _ (.inr hj)]; exact h2 j hj⟩
  · obtain ⟨sv, h1, h2⟩ := h.g6
    exact ⟨sv, by rw [hb _ (.inl rfl)]; exact h1, fun j hj => by unfold Pin.rv; rw [he _ (.inr hj)]; exact h2 j hj⟩
  · obtain ⟨h1, h2⟩ := h.fo j hj
    refine ⟨h1.all (fun l _ hl => he l (.inr (by omega))) (fun l _ hl => hb l (.inr (by omega))), ?_⟩
    unfold Pin.rv at h2 ⊢
    rw [he _ (.inr hj), he _ (.inr hj)]
    exact h2.all (fun l _ hl => hb l (.inr (by omega)))
end Go.Proofs.YbulkexmzaGreat
