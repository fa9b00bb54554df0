/-
  slices.SortStableFunc of accesses (21), no element.
-/
import Derived.Test.YbulkexmzaGreatNc
namespace Go.Proofs.YbulkexmzaGreat
open Go.RowKit

set_option maxHeartbeats 4000000 in
set_option maxRecDepth 100000 in
theorem ins64 (w : World) (aa : Option Addr) (ac : Nat) (fv : Value) : Calls Ybaz.prog 64 #[.slice aa 0 ac, .int .i64 0, .int .i64 0, fv] w fun e w' => e = .returned (.tuple #[]) ∧ w' = w := by
  go_enter Ybaz.func64, Ybaz.ntmps64
  go_wp2
  refine wp_loop_once ?_
  go_wp2
  go_end0
  exact ⟨rfl, rfl⟩

set_option maxHeartbeats 4000000 in
set_option maxRecDepth 100000 in
theorem stab42 (w : World) (aa : Option Addr) (ac : Nat) (fv : Value) : Calls Ybaz.prog 42 #[.slice aa 0 ac, .int .i64 0, fv] w fun e w' => e = .returned (.tuple #[]) ∧ w' = w := by
  have HI : Hid _ := ins64 w aa ac fv
  go_enter Ybaz.func42, Ybaz.ntmps42
  go_wp2
  refine wp_loop_once ?_
  go_wp2_with (go_at_call 64; refine Calls.mono HI.out ?_; rintro e w' ⟨rfl, rfl⟩; dsimp only)
  refine wp_loop_once ?_
  go_wp2
  go_end0
  exact ⟨rfl, rfl⟩

set_option maxHeartbeats 4000000 in
set_option maxRecDepth 100000 in
theorem sort21 (w : World) (aa : Option Addr) (ac : Nat) (fv : Value) : Calls Ybaz.prog 21 #[.slice aa 0 ac, fv] w fun e w' => e = .returned (.tuple #[]) ∧ w' = w := by
  have HI : Hid _ := stab42 w aa ac fv
  go_enter Ybaz.func21, Ybaz.ntmps21
  go_wp2_with (go_at_call 42; refine Calls.mono HI.out ?_; rintro e w' ⟨rfl, rfl⟩; dsimp only)
  go_end0
  exact ⟨rfl, rfl⟩
end Go.Proofs.YbulkexmzaGreat
