/-
  slices.Clone of ints (37), at a slice that is not nil.
-/
import Derived.Test.YbulkexmzaGreatUo
import Derived.Lib.Walk
import Derived.Lib.SliceRun
namespace Go.Proofs.YbulkexmzaGreat
open Go.RowKit Go.Shelf Go.Lib

set_option maxHeartbeats 2000000 in
set_option maxRecDepth 100000 in
theorem clone37 {w : World} {b n c : Nat} (z : Nat → Int) (hn : n ≤ 100000) (hc : ∀ j, j < n → w.cell? ⟨b, j, none⟩ = some (.int .i64 (z j))) :
    Calls Ybaz.prog 37 #[.slice (some ⟨b, 0, none⟩) n c] w fun e w' => ∃ g cap, e = .returned (.slice (some ⟨g, 0, none⟩) n cap) ∧ n ≤ cap ∧ w.heap.size ≤ g ∧ w.Since w.heap.size w' ∧ RowOk w' g ⟨3, cap, fun i u => i < n → u = .int .i64 (z i)⟩ := by
  obtain ⟨i0, hi, hz0, hz1, hz2⟩ := info_parts Ybaz.info3
  have q22 : ∀ (w : World) (a : Option Addr) (n c n' c' : Nat), (binOp .eql 46 (.slice a n c) (.slice none n' c')).run Ybaz.prog w = .ok (.bool a.isNone) w := fun w a n c n' c' => Lib.run_eql_slice_nil w _ _ a n c n' c' Ybaz.underlying46
  have A : Aside (∀ j, j < n → w.cell? ⟨b, j, none⟩ = some (.int .i64 (z j))) := hc
  clear hc
  go_enter Ybaz.func37, Ybaz.ntmps37
  go_wp2_with (at_builtin; refine wpList_append_own _ rfl _ _ 46 rfl w.heap.size 3 i0 (.int .i64 0) 1 8 Ybaz.underlying46 hi hz0 hz1 hz2 rfl (by decide) _ _ _ rfl (World.ownsRow_made w #[] 0 (Nat.le_refl _) (Nat.zero_le _) rfl) ⟨b, 0, none⟩ n c ((List.range n).map (fun j => Value.int .i64 (z j))) rfl ?qc1 ?qc2 ?qc3 ?qc4 ?qc5 ?qc6 ?_)
  case qc1 => simp
  case qc2 =>
    intro j u hj
    have hjn : j < n := by
      have := (List.getElem?_eq_some_iff.1 hj).1
      simpa using this
    rw [Addr.add_lit]
    refine Lib.cell?_alloc_some _ ?_
    rw [show (0 + j) = j by omega, A.out j hjn]
    simp [hjn] at hj
    rw [hj]
  case qc3 => intro u hu; obtain ⟨x, _, rfl⟩ := List.mem_map.1 hu; rfl
  case qc4 => unfold maxLen; omega
  case qc5 => omega
  case qc6 => simp
  intro v' w1 hown hgrow hnil
  go_wp2
  go_ret
  have hS : w.Since w.heap.size w1 := (alloc_since w (.cells #[] 3)).grown hgrow (by simp) (by intro k hk; simp [Value.ownBlock] at hk; omega)
  obtain ⟨_, ho⟩ := hown
  rcases ho with ⟨h1, _⟩ | ⟨g, cap, cur, h1, hge, hcur, hle, hmx, hsz, htk⟩
  · exact absurd h1 hnil
  · refine ⟨g, cap, by rw [h1]; rfl, hle, hge, hS, cur, hcur, by simpa using hsz, fun i u hu hin => ?_⟩
    have e1 : (cur.toList.take (n * 1))[i]? = some u := by
      rw [List.getElem?_take, if_pos (by omega)]
      simpa using hu
    rw [htk] at e1
    simp [hin] at e1
    exact e1.symm
end Go.Proofs.YbulkexmzaGreat
