/-
  THE WALK over (*Reader).Int32 (5).
-/
import Derived.Test.YbulkexmwwFmtWant
namespace Go.Proofs.YbulkexmwwFmt
open Go.RowKit Go.Extern.Stop Go.Stop Go.Extern

theorem fault_i32 (F : Interp) (rv : Value) (k v : Int) (w : World) (hF : F.answers w.tape) :
    Calls Ybaf.prog 10 #[rv, .int .i64 k, .string ⟨#[97, 110, 32, 105, 51, 50, 32, 111, 102, 32, 37, 100]⟩, .slice (some ⟨w.heap.size, 0, none⟩) 1 1] (w.alloc (.cells #[.iface 2 (.int .i64 v)] 20)) fun e w' => ErrPost k w e w' := by
  have hB2 : Below w.heap.size w (w.alloc (.cells #[.iface 2 (.int .i64 v)] 20)) := (Below.refl _ w).alloc (Nat.le_refl _) _
  refine (fault_of rv k _ _ _ (errorf_i32 F v w.heap.size _ (by exact hF) (World.cell?_alloc_at (w := w) #[_] 20 _ 0 rfl))).mono ?_
  rintro e w' ⟨g, u, x, hg, he, hc0, hc1, hb⟩
  exact ⟨g, u, x, Nat.le_trans hB2.size hg, he, hc0, hc1, hB2.trans (hb.mono hB2.size)⟩

/-- What Int32 leaves at another type. -/
def BadPost (k : Int) (w : World) (e : Ending) (w' : World) : Prop :=
  ∃ g u x, w.heap.size ≤ g ∧ e = .returned (.tuple #[.int .i32 0, .iface 41 (.pointer (some ⟨g, 0, none⟩))]) ∧ w'.cell? ⟨g, 0, none⟩ = some (.int .i64 k) ∧ w'.cell? ⟨g, 1, none⟩ = some (.iface u x) ∧ Below w.heap.size w w'

set_option maxHeartbeats 400000 in
theorem int32_bad (F : Interp) (t : Int) (rb k : Nat) (w : World) (h0 : 0 ≤ t) (h1 : t ≤ 255) (h5 : (t == 5) = false) (hN : Named F w) (hrb : rb < w.heap.size) (hk : w.cell? ⟨rb, 1, none⟩ = some (.int .i64 k)) :
    Calls Ybaf.prog 5 #[.pointer (some ⟨rb, 0, none⟩), .int .u8 t] w fun e w' => BadPost k w e w' := by
  have H : Hid (∀ w, Named F w → rb < w.heap.size → w.cell? ⟨rb, 1, none⟩ = some (.int .i64 k) → Calls Ybaf.prog 8 #[.pointer (some ⟨rb, 0, none⟩), .int .u8 t, .int .u8 5] w fun e w' => ErrPost k w e w') := fun w a b c => want_bad F t rb k w h0 h1 h5 a b c
  have HN : Hid (Named F w) := hN
  clear hN
  go_enter Ybaf.func5, Ybaf.ntmps5
  go_wp2_with (go_at_call 8; refine (H.out _ HN.out hrb hk).mono ?_; rintro e w1 ⟨g, u, x, hg, rfl, hx0, hx1, hB⟩)
  go_ret2
  exact ⟨g, u, x, hg, rfl, hx0, hx1, hB⟩

/-- What Int32 leaves at an i32. -/
def IntPost (D : Int × Int × Nat) (rb n k : Nat) (a0 a1 : Addr) (w : World) (e : Ending) (w' : World) : Prop :=
  (D.2.2 = 0 ∧ ∃ g, w.heap.size ≤ g ∧ e = .returned (.tuple #[.int .i32 0, .iface 41 (.pointer (some ⟨g, 0, none⟩))]) ∧ w'.cell? ⟨g, 0, none⟩ = some (.int .i64 n) ∧ w'.cell? ⟨g, 1, none⟩ = some (.iface 58 (.pointer (some a0))) ∧ Below w.heap.size w w') ∨
  (D.2.2 = 1 ∧ ∃ g, w.heap.size ≤ g ∧ e = .returned (.tuple #[.int .i32 0, .iface 41 (.pointer (some ⟨g, 0, none⟩))]) ∧ w'.cell? ⟨g, 0, none⟩ = some (.int .i64 k) ∧ w'.cell? ⟨g, 1, none⟩ = some (.iface 58 (.pointer (some a1))) ∧ Below w.heap.size w w') ∨
  (D.2.2 = 2 ∧ -2147483648 ≤ zz D.1 ∧ zz D.1 ≤ 2147483647 ∧ e = .returned (.tuple #[.int .i32 (zz D.1), .nilIface]) ∧ Below w.heap.size (w.setCell ⟨rb, 1, none⟩ (.int .i64 (k + D.2.1))) w') ∨
  (D.2.2 = 2 ∧ (zz D.1 < -2147483648 ∨ 2147483647 < zz D.1) ∧ ∃ g u x, w.heap.size ≤ g ∧ e = .returned (.tuple #[.int .i32 (wrap32 (zz D.1)), .iface 41 (.pointer (some ⟨g, 0, none⟩))]) ∧ w'.cell? ⟨g, 0, none⟩ = some (.int .i64 k) ∧ w'.cell? ⟨g, 1, none⟩ = some (.iface u x) ∧ Below w.heap.size (w.setCell ⟨rb, 1, none⟩ (.int .i64 (k + D.2.1))) w')

set_option maxHeartbeats 1000000 in
theorem int32_of (F : Interp) (D : Int × Int × Nat) (rb n k : Nat) (a0 a1 : Addr) (w : World) (hF : F.answers w.tape) (hu0 : 0 ≤ D.1) (hu1 : D.1 ≤ 18446744073709551615)
    (hk : w.cell? ⟨rb, 1, none⟩ = some (.int .i64 k))
    (h : Hid (Calls Ybaf.prog 9 #[.pointer (some ⟨rb, 0, none⟩)] w fun e w' => VarPost D rb n k a0 a1 w e w')) :
    Calls Ybaf.prog 5 #[.pointer (some ⟨rb, 0, none⟩), .int .u8 5] w fun e w' => IntPost D rb n k a0 a1 w e w' := by
  obtain ⟨hz0, hz1⟩ := zz_range D.1 hu0 hu1
  have HF : Hid (F.answers w.tape) := hF
  clear hF
  go_enter Ybaf.func5, Ybaf.ntmps5
  go_wp2_with (go_at_call 8; refine (want_ok _ _).mono ?_; rintro e w' ⟨rfl, hw⟩; cases hw)
  refine (h.out).mono ?_
  rintro e w' (⟨hst, g, hg, rfl, hx0, hx1, hB⟩ | ⟨hst, g, hg, rfl, hx0, hx1, hB⟩ | ⟨hst, rfl, hB⟩)
  · go_wp2
    go_ret2
    exact .inl ⟨hst, g, hg, by rfl, hx0, hx1, hB⟩
  · go_wp2
    go_ret2
    exact .inr (.inl ⟨hst, g, hg, by rfl, hx0, hx1, hB⟩)
  · have HF1 : Hid (F.answers w'.tape) := by have := HF.out; unfold Hid Interp.answers at *; rw [hB.tape]; exact this
    by_cases hr : -2147483648 ≤ zz D.1 ∧ zz D.1 ≤ 2147483647
    · obtain ⟨hr1, hr2⟩ := hr
      go_wp2
      go_ret2
      exact .inr (.inr (.inl ⟨hst, hr1, hr2, by rfl, hB⟩))
    · have hr' : zz D.1 < -2147483648 ∨ 2147483647 < zz D.1 := by omega
      clear hr
      have HR : Hid (zz D.1 < -2147483648 ∨ 2147483647 < zz D.1) := hr'
      have hsz : w.heap.size ≤ w'.heap.size := by have := hB.size; simpa using this
      rcases hr' with h1 | h1
      all_goals
        go_wp2_with (go_at_call 10; refine (fault_i32 F _ k _ _ (by exact HF1.out)).mono ?_; rintro e w2 ⟨g, u, x, hg, rfl, hx0, hx1, hB2⟩)
        go_ret2
        exact .inr (.inr (.inr ⟨hst, HR.out, g, u, x, Nat.le_trans hsz hg, by rfl, hx0, hx1, hB.trans (hB2.mono hsz)⟩))
end Go.Proofs.YbulkexmwwFmt
