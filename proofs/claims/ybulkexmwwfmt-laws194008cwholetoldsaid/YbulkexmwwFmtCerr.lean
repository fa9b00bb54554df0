/-
  THE WALKS over zzs194008cerr (7), bytes.Clone (4), bytes.Equal (6).
-/
import Derived.Test.YbulkexmwwFmtUv
import Derived.LaidEql
import Derived.LaidEqlPtr
namespace Go.Proofs.YbulkexmwwFmt
open Go.RowKit

theorem eql41 (a : Addr) (w : World) : (binOp .eql 41 (.pointer (some a)) (.pointer none)).run Ybaf.prog w = .ok (.bool false) w := by kernel_rfl
theorem ta41 (x : Value) (w : World) : (Instr.typeAssert (.iface 41 x) 30 41 true).run Ybaf.prog w = .ok (.tuple #[x, .bool true]) w := by kernel_rfl
theorem eql30 (a : Addr) (w : World) : (binOp .eql 30 (.iface 58 (.pointer (some a))) (.iface 58 (.pointer (some a)))).run Ybaf.prog w = .ok (.bool true) w :=
  run_eql_iface_ptr_same w a Ybaf.underlying30 Ybaf.underlying58 rfl rfl rfl

set_option maxHeartbeats 400000 in
theorem cerr_any (k : Nat) (off : Int) (u : TypeId) (x : Value) (inner : Value) (w : World)
    (h0 : w.cell? ⟨k, 0, none⟩ = some (.int .i64 off)) (h1 : w.cell? ⟨k, 1, none⟩ = some (.iface u x)) :
    Calls Ybaf.prog 7 #[.iface 41 (.pointer (some ⟨k, 0, none⟩)), .int .i64 off, inner, .bool true] w fun e w' =>
      e = .returned (.bool true) ∧ w' = w := by
  have e1 := ta41
  have e2 := eql41
  go_enter Ybaf.func7, Ybaf.ntmps7
  go_wp2
  go_ret
  exact ⟨rfl, rfl⟩

set_option maxHeartbeats 400000 in
theorem cerr_same (k : Nat) (off : Int) (a : Addr) (w : World)
    (h0 : w.cell? ⟨k, 0, none⟩ = some (.int .i64 off)) (h1 : w.cell? ⟨k, 1, none⟩ = some (.iface 58 (.pointer (some a)))) :
    Calls Ybaf.prog 7 #[.iface 41 (.pointer (some ⟨k, 0, none⟩)), .int .i64 off, .iface 58 (.pointer (some a)), .bool false] w fun e w' =>
      e = .returned (.bool true) ∧ w' = w := by
  have e1 := ta41
  have e2 := eql41
  have e3 := eql30
  go_enter Ybaf.func7, Ybaf.ntmps7
  go_wp2
  go_ret
  exact ⟨rfl, rfl⟩
end Go.Proofs.YbulkexmwwFmt
