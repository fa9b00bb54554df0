/-
  THE INPUT IN MEMORY; a function's code from a region on; a copy between two rows.
-/
import Derived.Test.YbulkexmzaLayw
import Derived.Laws.CopyOwn
namespace Go.Proofs.Ybulkexmza
open Go.RowKit Go.Maps

def firstId : Code → Nat
  | .region id _ _ => id
  | .seq a _ => firstId a
  | .block _ c => firstId c
  | .scope c => firstId c
  | _ => 100000
/-- The code from the statement on whose first region is k. -/
def codeAt (k : Nat) : Code → Option Code
  | .seq a b => if Nat.beq (firstId a) k = true then some (.seq a b) else match codeAt k a with
    | some c => some c
    | none => codeAt k b
  | .block _ c => codeAt k c
  | .scope c => codeAt k c
  | .loop c => codeAt k c
  | _ => none

/-- The input, read in w. -/
structure InM (w : World) (X : Inp) (ra : Option Addr) (rb ro : Nat) (A : Nat → Option Addr) (C AB AO : Nat → Nat) : Prop where
  ad : 0 < X.G → ra = some ⟨rb, ro, none⟩
  c0 : ∀ r, r < X.G → w.cell? ⟨rb, ro + r * 4, none⟩ = some (.string (X.N r))
  c1 : ∀ r, r < X.G → w.cell? ⟨rb, ro + r * 4 + 1, none⟩ = some (.int .u8 (X.K r))
  c2 : ∀ r, r < X.G → w.cell? ⟨rb, ro + r * 4 + 2, none⟩ = some (.int .u16 (X.I r))
  c3 : ∀ r, r < X.G → w.cell? ⟨rb, ro + r * 4 + 3, none⟩ = some (.slice (A r) (X.L r) (C r))
  sa : ∀ r, r < X.G → 0 < X.L r → A r = some ⟨AB r, AO r, none⟩
  s0 : ∀ r, r < X.G → ∀ j, j < X.L r → w.cell? ⟨AB r, AO r + j * 5, none⟩ = some (.string (X.SN r j))
  s1 : ∀ r, r < X.G → ∀ j, j < X.L r → w.cell? ⟨AB r, AO r + j * 5 + 1, none⟩ = some (.int .u8 (X.SK r j))
  s2 : ∀ r, r < X.G → ∀ j, j < X.L r → w.cell? ⟨AB r, AO r + j * 5 + 2, none⟩ = some (.int .u8 (X.SD r j))
  s3 : ∀ r, r < X.G → ∀ j, j < X.L r → w.cell? ⟨AB r, AO r + j * 5 + 3, none⟩ = some (.int .u16 (X.SZ r j))
  s4 : ∀ r, r < X.G → ∀ j, j < X.L r → w.cell? ⟨AB r, AO r + j * 5 + 4, none⟩ = some (.int .u8 (X.SA r j))

theorem InM.since {w wr : World} {X : Inp} {ra : Option Addr} {rb ro : Nat} {A : Nat → Option Addr} {C AB AO : Nat → Nat} (h : InM w X ra rb ro A C AB AO) (hs : w.Since w.heap.size wr) : InM wr X ra rb ro A C AB AO := by
  have k : ∀ {a v}, w.cell? a = some v → wr.cell? a = some v := fun e => (hs.cell (World.block_lt_of_cell? _ _ e)).trans e
  exact ⟨h.ad, fun r hr => k (h.c0 r hr), fun r hr => k (h.c1 r hr), fun r hr => k (h.c2 r hr), fun r hr => k (h.c3 r hr), h.sa, fun r hr j hj => k (h.s0 r hr j hj), fun r hr j hj => k (h.s1 r hr j hj), fun r hr j hj => k (h.s2 r hr j hj), fun r hr j hj => k (h.s3 r hr j hj), fun r hr j hj => k (h.s4 r hr j hj)⟩

namespace Inp
variable {X : Inp}
theorem key_ok (r j : Nat) : WideAt.IsKeyLit (X.key r j) := by simp [key, WideAt.IsKeyLit]
theorem tb_map {D : DataW Unit} (hD : Maps.IsMap D) (r j : Nat) : Maps.IsMap (X.tb D r j) := by
  induction j with
  | zero => exact hD
  | succ j ih => exact ih.put _ _
theorem tab_map (r : Nat) : Maps.IsMap (X.tab r) := by
  induction r with
  | zero => exact ⟨[], rfl⟩
  | succ r ih => exact tb_map ih r _
theorem has_tb {D : DataW Unit} (hD : Maps.IsMap D) (k : Lit) (r j : Nat) (h : Maps.has D k = true) : Maps.has (X.tb D r j) k = true := by
  induction j with
  | zero => exact h
  | succ j ih =>
    by_cases e : k = X.key r j
    · subst e; exact Maps.has_put_same (tb_map hD r j) (key_ok r j) _
    · exact (Maps.has_put_other e _).trans ih
theorem has_in {D : DataW Unit} (hD : Maps.IsMap D) (r j n : Nat) (h : j < n) : Maps.has (X.tb D r n) (X.key r j) = true := by
  induction n with
  | zero => exact absurd h (Nat.not_lt_zero _)
  | succ n ih =>
    by_cases e : j = n
    · subst e; exact Maps.has_put_same (tb_map hD r j) (key_ok r j) _
    · by_cases ek : X.key r j = X.key r n
      · rw [ek]; exact Maps.has_put_same (tb_map hD r n) (key_ok r n) _
      · exact (Maps.has_put_other ek _).trans (ih (by omega))
theorem has_tab {r j n : Nat} (hr : r < n) (hj : j < X.L r) : Maps.has (X.tab n) (X.key r j) = true := by
  induction n with
  | zero => exact absurd hr (Nat.not_lt_zero _)
  | succ n ih =>
    by_cases e : r = n
    · subst e; exact has_in (tab_map r) r j _ hj
    · exact has_tb (tab_map n) _ _ _ (ih (by omega))
end Inp
end Go.Proofs.Ybulkexmza
