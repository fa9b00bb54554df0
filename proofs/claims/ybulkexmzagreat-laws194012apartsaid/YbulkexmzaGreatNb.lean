/-
  slices.Repeat of lists (23), no time.
-/
import Derived.Test.YbulkexmzaGreatNa
namespace Go.Proofs.YbulkexmzaGreat
open Go.RowKit

theorem run_mk92 : ∃ X : Array Value, ∀ w, (Instr.makeSlice 92 (.int .i64 0) (.int .i64 0)).run Ybaz.prog w = .ok (.slice (some ⟨w.heap.size, 0, none⟩) 0 0) (w.alloc (.cells X 95)) := by
  have hi : ∃ i z, Ybaz.prog.info? 95 = some i ∧ i.zero = some z := by
    have h : (match Ybaz.prog.info? 95 with
      | some i => i.zero.isSome
      | none => false) = true := by kernel_rfl
    cases h1 : Ybaz.prog.info? 95 with
    | none => rw [h1] at h; cases h
    | some i =>
      rw [h1] at h
      obtain ⟨z, hz⟩ := Option.isSome_iff_exists.1 h
      exact ⟨i, z, rfl, hz⟩
  obtain ⟨i, z, hi, hz⟩ := hi
  exact ⟨madeCells z.cells ((0 : Int).toNat * i.size), fun w => run_make (P := Ybaz.prog) w 92 95 i z Ybaz.underlying92 hi hz .i64 .i64 0 0 (by omega) (by omega) (by omega) (by omega)⟩

theorem run_copy92 (w : World) (d a : Addr) (dc sc : Nat) : (Builtin.copy_ #[92, 92] 3 #[.slice (some d) 0 dc, .slice (some a) 1 sc]).run Ybaz.prog w = .ok (.int .i64 0) w := by
  have hs : (Ybaz.prog.info? 95).map (·.size) = some 2 := by kernel_rfl
  cases hq : Ybaz.prog.info? 95 with
  | none => rw [hq] at hs; cases hs
  | some i =>
    have hl : ∀ (x : Addr), (loadCells x 0).run Ybaz.prog w = .ok #[] w := fun x => by simpa using run_loadCells_list (P := Ybaz.prog) w x [] (by simp)
    simp [Builtin.copy_, run_underlying Ybaz.underlying92, Builtin.lenOf, Builtin.firstCells, sizeOf, typeInfo, hq, storeCells, hl, goInt]

set_option maxHeartbeats 4000000 in
set_option maxRecDepth 100000 in
theorem repeat23 {w : World} {b c : Nat} :
    Calls Ybaz.prog 23 #[.slice (some ⟨b, 0, none⟩) 1 c, .int .i64 0] w fun e w' => ∃ g, e = .returned (.slice (some ⟨g, 0, none⟩) 0 0) ∧ w.Since w.heap.size w' := by
  have HM : Hid _ := mul41 0 (by omega) w
  obtain ⟨X, hmk⟩ := run_mk92
  have hcp := run_copy92
  go_enter Ybaz.func23, Ybaz.ntmps23
  refine wp_seq_hid (fun K HK => ?_)
  go_wp2
  refine HK.out _ _ ?_
  clear HK K
  refine wp_seq_hid (fun K HK => ?_)
  go_wp2
  refine HK.out _ _ ?_
  clear HK K
  refine wp_seq_hid (fun K HK => ?_)
  go_wp2_with (go_at_call 41; refine Calls.mono HM.out ?_; rintro e w1 ⟨rfl, rfl⟩; dsimp only)
  refine HK.out _ _ ?_
  clear HK K HM
  refine wp_seq_hid (fun K HK => ?_)
  go_wp2
  refine HK.out _ _ ?_
  clear HK K
  refine wp_seq_hid (fun K HK => ?_)
  go_wp2
  refine HK.out _ _ ?_
  clear HK K
  refine wp_seq_hid (fun K HK => ?_)
  go_wp2
  refine HK.out _ _ ?_
  clear HK K
  refine wp_seq_hid (fun K HK => ?_)
  refine wp_block ?_
  refine wp_loop_once ?_
  go_wp2
  refine HK.out _ _ ?_
  clear HK
  go_wp2
  go_ret
  exact ⟨w1.heap.size, rfl, alloc_since _ _⟩
end Go.Proofs.YbulkexmzaGreat
