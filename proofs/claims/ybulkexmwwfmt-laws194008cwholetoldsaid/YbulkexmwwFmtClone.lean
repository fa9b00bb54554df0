/-
  THE WALKS over bytes.Clone (4), bytes.Equal (6).
-/
import Derived.Test.YbulkexmwwFmtUv
import Derived.Laws.BytesArg
import Derived.WideShapes
namespace Go.Proofs.YbulkexmwwFmt
open Go.RowKit

theorem Ybaf.info5 : (Ybaf.prog.info? 5).map (fun i => (i.zero, i.size, i.bytes)) = some (some (.int .u8 0), 1, 1) := by kernel_rfl

theorem eqnil22 (a : Addr) (n c : Nat) (w : World) : (binOp .eql 22 (.slice (some a) n c) (.slice none 0 0)).run Ybaf.prog w = .ok (.bool false) w := by kernel_rfl
theorem eqnil22' (w : World) : (binOp .eql 22 (.slice none 0 0) (.slice none 0 0)).run Ybaf.prog w = .ok (.bool true) w := by kernel_rfl

theorem clone_nil (w : World) : Calls Ybaf.prog 4 #[.slice none 0 0] w fun e w' => e = .returned (.slice none 0 0) ∧ w' = w := by
  have e1 := eqnil22'
  go_enter Ybaf.func4, Ybaf.ntmps4
  go_wp2
  go_ret
  exact ⟨rfl, rfl⟩

set_option maxHeartbeats 400000 in
theorem clone_any (ad : Addr) (n c : Nat) (xs : List Int) (w : World) (hl : xs.length = n) (hn : n ≤ 1048576)
    (hc : ∀ j, j < n → w.cell? (ad.add j) = some (.int .u8 (xs.getD j 0))) :
    Calls Ybaf.prog 4 #[.slice (some ad) n c] w fun e w' => ∃ g cap, e = .returned (.slice (some ⟨g, 0, none⟩) n cap) ∧
      w.heap.size ≤ g ∧ w'.ownsRow w.heap.size 5 1 (.slice (some ⟨g, 0, none⟩) n cap) n (xs.map (Value.int .u8)) ∧ Below w.heap.size w w' := by
  have e1 := eqnil22
  obtain ⟨i0, hi, hz0, hz1, hz2⟩ := info_parts Ybaf.info5
  go_enter Ybaf.func4, Ybaf.ntmps4
  go_wp2_with (at_builtin; refine wpList_append_own _ rfl _ _ 22 rfl w.heap.size 5 i0 (.int .u8 0) 1 1 Ybaf.underlying22 hi hz0 hz1 hz2 rfl (by decide) _ 0 [] rfl (World.ownsRow_made w #[] 0 (Nat.le_refl _) (Nat.zero_le _) rfl) ad n c (xs.map (Value.int .u8)) rfl (by simp [hl]) ?_ (ints_oneCell _ _) ?_ ?_ ?_ ?_)
  · intro j u hj
    have hjn : j < n := by
      rcases Nat.lt_or_ge j n with h | h
      · exact h
      · rw [List.getElem?_eq_none (by simp; omega)] at hj; cases hj
    rw [World.cell?_alloc_lt _ _ _ (World.block_lt_of_cell? _ _ (hc j hjn)), hc j hjn]
    simp at hj
    obtain ⟨z, hz, rfl⟩ := hj
    simp [hz]
  · unfold maxLen; omega
  · omega
  · simp
  · intro v' w1 hown hgrow hnil
    have hv : ∃ g cap, v' = .slice (some ⟨g, 0, none⟩) n cap ∧ w.heap.size ≤ g := by
      rcases hown.2 with ⟨h1, h2⟩ | ⟨g, cap, cur, h1, h2, _⟩
      · exact (hnil h1).elim
      · exact ⟨g, cap, by simpa using h1, h2⟩
    obtain ⟨g, cap, rfl, hg⟩ := hv
    have hB : Below w.heap.size w w1 := ((Below.refl _ w).alloc (Nat.le_refl _) _).grown hgrow (by simp) (by intro k hk; simp [Value.ownBlock] at hk; omega)
    clear hgrow
    go_wp2
    go_ret
    exact ⟨g, cap, rfl, hg, by simpa using hown, hB⟩

theorem equal_any (v1 v2 : Value) (xs : List Int) (w : World)
    (h1 : (convert 22 9 v1).run Ybaf.prog w = .ok (.string (strOfNums xs)) w) (h2 : (convert 22 9 v2).run Ybaf.prog w = .ok (.string (strOfNums xs)) w) :
    Calls Ybaf.prog 6 #[v1, v2] w fun e w' => e = .returned (.bool true) ∧ w' = w := by
  go_enter Ybaf.func6, Ybaf.ntmps6
  go_wp2
  go_ret
  exact ⟨by simp, rfl⟩
end Go.Proofs.YbulkexmwwFmt
