/-
  THE WALKS over (Type).named (11), fmt.Errorf (13), (*Reader).fault (10).
-/
import Derived.Test.YbulkexmwwFmtFm
namespace Go.Proofs.YbulkexmwwFmt
open Go.RowKit Go.Extern.Stop Go.Stop Go.Extern
attribute [local go_sem] Ybaf.call18 Ybaf.call21 Ybaf.guard Ybaf.fmt0 Ybaf.fmt0r Ybaf.fmt1 Ybaf.fmt1r Ybaf.fmt2 Ybaf.fmt2r Ybaf.fmt3 Ybaf.fmt3r Ybaf.fmt4 Ybaf.fmt4r Ybaf.fmt5 Ybaf.fmt5r Ybaf.act9_115w Ybaf.op9_115w Ybaf.act9_118w Ybaf.op9_118w Ybaf.strict9 Ybaf.act2_100w Ybaf.op2_100w Ybaf.act2_118w Ybaf.op2_118w Ybaf.strict2 Ybaf.act5_100 Ybaf.op5_100 Ybaf.act5_118 Ybaf.op5_118 Ybaf.strict5 Ybaf.str9 Ybaf.str2 Ybaf.str5 Ybaf.ptr58 Ybaf.elem58 Ybaf.isError58

set_option maxHeartbeats 400000 in
theorem named_any (F : Interp) (t : Int) (w : World) (h0 : 0 ≤ t) (h1 : t ≤ 255) (hN : Named F w) :
    Calls Ybaf.prog 11 #[.int .u8 t] w fun e w' => ∃ s : ByteArray, e = .returned (.string s) ∧ s.size ≤ 1003 ∧ Below w.heap.size w w' := by
  have HN : Hid (Named F w) := hN
  clear hN
  go_enter Ybaf.func11, Ybaf.ntmps11
  go_wp2_with fail
  refine (string_any F t _ h0 h1 HN.out).mono ?_
  rintro e w1 ⟨s1, rfl, hl1, hB1⟩
  go_wp2_with fail
  refine (prefix14 s1 _ hl1).mono ?_
  rintro e w2 ⟨⟨b, rfl⟩, rfl⟩
  go_wp2_with fail
  all_goals
    refine (string_any F t _ h0 h1 (HN.out.below hB1)).mono ?_
    rintro e w3 ⟨s2, rfl, hl2, hB2⟩
    go_wp2_with fail
    go_ret
    refine ⟨_, rfl, ?_, hB1.trans (hB2.mono hB1.size)⟩
    rw [ByteArray.size_append]
    show _ + s2.size ≤ 1003
    first | (show 3 + s2.size ≤ 1003; omega) | (show 2 + s2.size ≤ 1003; omega)

set_option maxHeartbeats 400000 in
theorem errorf_want (F : Interp) (s1 s2 : ByteArray) (blk : Nat) (w : World) (hF : F.answers w.tape)
    (hc0 : w.cell? ⟨blk, 0, none⟩ = some (.iface 9 (.string s1))) (hc1 : w.cell? ⟨blk, 1, none⟩ = some (.iface 9 (.string s2))) :
    Calls Ybaf.prog 13 #[.string ⟨#[37, 115, 32, 119, 104, 101, 114, 101, 32, 37, 115, 32, 98, 101, 108, 111, 110, 103, 115]⟩, .slice (some ⟨blk, 0, none⟩) 2 2] w fun e w' => ∃ u x, e = .returned (.iface u x) ∧ Below w.heap.size w w' := by
  have hF' := answers_open hF
  go_enter Ybaf.func13, Ybaf.ntmps13
  go_wp2
  apply rows_value Ybaf.nextTurns
  case hr =>
    go_simp
    exact ⟨rfl, rfl⟩
  case h =>
    go_wp2
    go_ret
    exact ⟨_, _, rfl, ((Below.refl _ w).alloc (Nat.le_refl _) _).drew⟩

set_option maxHeartbeats 400000 in
theorem errorf_i32 (F : Interp) (v : Int) (blk : Nat) (w : World) (hF : F.answers w.tape)
    (hc0 : w.cell? ⟨blk, 0, none⟩ = some (.iface 2 (.int .i64 v))) :
    Calls Ybaf.prog 13 #[.string ⟨#[97, 110, 32, 105, 51, 50, 32, 111, 102, 32, 37, 100]⟩, .slice (some ⟨blk, 0, none⟩) 1 1] w fun e w' => ∃ u x, e = .returned (.iface u x) ∧ Below w.heap.size w w' := by
  have hF' := answers_open hF
  go_enter Ybaf.func13, Ybaf.ntmps13
  go_wp2
  apply rows_value Ybaf.nextTurns
  case hr =>
    go_simp
    exact ⟨rfl, rfl⟩
  case h =>
    go_wp2
    go_ret
    exact ⟨_, _, rfl, ((Below.refl _ w).alloc (Nat.le_refl _) _).drew⟩

/-- What fault leaves. -/
def ErrPost (k : Int) (w : World) (e : Ending) (w' : World) : Prop :=
  ∃ g u x, w.heap.size ≤ g ∧ e = .returned (.iface 41 (.pointer (some ⟨g, 0, none⟩))) ∧ w'.cell? ⟨g, 0, none⟩ = some (.int .i64 k) ∧ w'.cell? ⟨g, 1, none⟩ = some (.iface u x) ∧ Below w.heap.size w w'

set_option maxHeartbeats 400000 in
theorem fault_of (rv : Value) (k : Int) (fm sl : Value) (w : World)
    (h : Hid (Calls Ybaf.prog 13 #[fm, sl] w fun e w' => ∃ u x, e = .returned (.iface u x) ∧ Below w.heap.size w w')) :
    Calls Ybaf.prog 10 #[rv, .int .i64 k, fm, sl] w fun e w' => ErrPost k w e w' := by
  go_enter Ybaf.func10, Ybaf.ntmps10
  go_wp2_with (go_at_call 13; refine (h.out).mono ?_; rintro e w1 ⟨u, x, rfl, hB⟩)
  go_ret
  exact ⟨w1.heap.size, u, x, hB.size, rfl, World.cell?_alloc_at (w := w1) #[_, _] 44 _ 0 rfl, World.cell?_alloc_at (w := w1) #[_, _] 44 _ 1 rfl, hB.alloc hB.size _⟩
end Go.Proofs.YbulkexmwwFmt
