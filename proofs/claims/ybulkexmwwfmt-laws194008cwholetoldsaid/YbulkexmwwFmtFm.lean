/-
  THE WALKS over (Type).String (15), strings.HasPrefix (14, 20), (Type).named (11), fmt.Errorf (13), (*Reader).fault (10).
-/
import Derived.Test.YbulkexmwwFmtRd
import Derived.Test.YbulkexmwwFmtFacts
namespace Go.Proofs.YbulkexmwwFmt
open Go.RowKit Go.Extern.Stop Go.Stop Go.Extern
attribute [local go_sem] Ybaf.call18 Ybaf.call21 Ybaf.guard Ybaf.fmt0 Ybaf.fmt0r Ybaf.fmt1 Ybaf.fmt1r Ybaf.fmt2 Ybaf.fmt2r Ybaf.fmt3 Ybaf.fmt3r Ybaf.fmt4 Ybaf.fmt4r Ybaf.fmt5 Ybaf.fmt5r Ybaf.act9_115w Ybaf.op9_115w Ybaf.act9_118w Ybaf.op9_118w Ybaf.strict9 Ybaf.act2_100w Ybaf.op2_100w Ybaf.act2_118w Ybaf.op2_118w Ybaf.strict2 Ybaf.act5_100 Ybaf.op5_100 Ybaf.act5_118 Ybaf.op5_118 Ybaf.strict5 Ybaf.str9 Ybaf.str2 Ybaf.str5 Ybaf.ptr58 Ybaf.elem58 Ybaf.isError58

/-- What fmt.Sprintf is asked by (Type).String. -/
def readT (t : Int) : List (List UInt8) := [[116, 121, 112, 101, 32, 37, 100], Ybaf.shape5, digits 8 (t % 18446744073709551616).toNat]

set_option maxHeartbeats 400000 in
theorem string_big (F : Interp) (t : Int) (w : World) (hF : F.answers w.tape) (h0 : 13 ≤ t) (h1 : t ≤ 255) :
    Calls Ybaf.prog 15 #[.int .u8 t] w fun e w' => e = .returned (.string (FmtStop.textOf (F "fmt.Sprintf" (readT t) 0))) ∧ w' = (w.alloc (.cells #[.iface 5 (.int .u8 t)] 20)).drew := by
  have hF' := answers_open hF
  go_enter Ybaf.func15, Ybaf.ntmps15
  go_wp2
  apply rows_value Ybaf.nextTurns
  case hr =>
    go_simp
    exact ⟨rfl, rfl⟩
  case h =>
    go_wp2
    go_ret
    exact ⟨rfl, rfl⟩

set_option maxHeartbeats 400000 in
theorem string_small (t : Nat) (s : ByteArray) (w : World) (h1 : t < 13) (hc : w.cell? ⟨2, t, none⟩ = some (.string s)) :
    Calls Ybaf.prog 15 #[.int .u8 t] w fun e w' => e = .returned (.string s) ∧ w' = w := by
  have hi : (t : Int) < 13 := by omega
  have hi0 : (0 : Int) ≤ (t : Int) := by omega
  go_enter Ybaf.func15, Ybaf.ntmps15
  go_wp2
  go_ret
  exact ⟨rfl, rfl⟩

/-- The names lie in variable 2; what fmt gives is short. -/
structure Named (F : Interp) (w : World) : Prop where
  ans : F.answers w.tape
  short : ∀ t : Int, 13 ≤ t → t ≤ 255 → (FmtStop.textOf (F "fmt.Sprintf" (readT t) 0)).size ≤ 1000
  names : ∀ t : Nat, t < 13 → ∃ s : ByteArray, w.cell? ⟨2, t, none⟩ = some (.string s) ∧ s.size ≤ 1000
  lt : 2 < w.heap.size

theorem Named.below {F : Interp} {w w' : World} (h : Named F w) (hb : Below w.heap.size w w') : Named F w' where
  ans := by have := h.ans; unfold Interp.answers at *; rw [hb.tape]; exact this
  short := h.short
  names := fun t ht => by
    obtain ⟨s, hs, hl⟩ := h.names t ht
    exact ⟨s, by rw [hb.cell (p := ⟨2, t, none⟩) h.lt]; exact hs, hl⟩
  lt := Nat.lt_of_lt_of_le h.lt hb.size

theorem string_any (F : Interp) (t : Int) (w : World) (h0 : 0 ≤ t) (h1 : t ≤ 255) (hN : Named F w) :
    Calls Ybaf.prog 15 #[.int .u8 t] w fun e w' => ∃ s : ByteArray, e = .returned (.string s) ∧ s.size ≤ 1000 ∧ Below w.heap.size w w' := by
  by_cases h : t < 13
  · obtain ⟨s, hs, hl⟩ := hN.names t.toNat (by omega)
    have e : t = (t.toNat : Int) := by omega
    rw [e]
    refine (string_small t.toNat s w (by omega) hs).mono ?_
    rintro e w' ⟨rfl, rfl⟩
    exact ⟨s, rfl, hl, Below.refl _ _⟩
  · refine (string_big F t w hN.ans (by omega) h1).mono ?_
    rintro e w' ⟨rfl, rfl⟩
    exact ⟨_, rfl, hN.short t (by omega) h1, ((Below.refl _ w).alloc (Nat.le_refl _) _).drew⟩

set_option maxHeartbeats 400000 in
theorem prefix20 (s : ByteArray) (w : World) (hs : s.size ≤ 1000) : Calls Ybaf.prog 20 #[.string s, .string ⟨#[105]⟩] w fun e w' => (∃ b, e = .returned (.bool b)) ∧ w' = w := by
  by_cases h : 1 ≤ s.size
  · have h' : (1 : Int) ≤ (s.size : Int) := by omega
    go_enter Ybaf.func20, Ybaf.ntmps20
    go_wp2
    go_ret
    exact ⟨⟨_, rfl⟩, rfl⟩
  · have h' : decide ((1 : Int) ≤ (s.size : Int)) = false := decide_eq_false (by omega)
    go_enter Ybaf.func20, Ybaf.ntmps20
    go_wp2
    go_ret
    exact ⟨⟨_, rfl⟩, rfl⟩

theorem prefix14 (s : ByteArray) (w : World) (hs : s.size ≤ 1000) : Calls Ybaf.prog 14 #[.string s, .string ⟨#[105]⟩] w fun e w' => (∃ b, e = .returned (.bool b)) ∧ w' = w := by
  go_enter Ybaf.func14, Ybaf.ntmps14
  go_wp2_with (go_at_call 20; refine (prefix20 s _ hs).mono ?_; rintro e w' ⟨⟨b, rfl⟩, rfl⟩)
  go_ret
  exact ⟨⟨_, rfl⟩, rfl⟩
end Go.Proofs.YbulkexmwwFmt
