/-
  THE WALK over (*Reader).want (8).
-/
import Derived.Test.YbulkexmwwFmtFn
import Derived.Deep.RegionWith
import Derived.Deep.RegionHeld3
import Derived.Deep.DrawnRows
namespace Go.Proofs.YbulkexmwwFmt
open Go.RowKit Go.Extern.Stop Go.Stop Go.Extern

theorem alloc_lt {w : World} {o : Obj} {b : Nat} (h : b < w.heap.size) : b < (w.alloc o).heap.size := by simp; omega

theorem named_from (F : Interp) (t : Int) (w w1 : World) (h0 : 0 ≤ t) (h1 : t ≤ 255) (hN : Named F w) (hB : Below w.heap.size w w1) :
    Calls Ybaf.prog 11 #[.int .u8 t] w1 fun e w' => ∃ s : ByteArray, e = .returned (.string s) ∧ s.size ≤ 1003 ∧ Below w.heap.size w w' :=
  (named_any F t w1 h0 h1 (hN.below hB)).mono fun _ _ ⟨s, he, hl, hb⟩ => ⟨s, he, hl, hB.trans (hb.mono hB.size)⟩

theorem fault_from (F : Interp) (rv : Value) (k : Int) (s1 s2 : ByteArray) (w w1 : World) (hN : Named F w) (hB : Below w.heap.size w w1) :
    Calls Ybaf.prog 10 #[rv, .int .i64 k, .string ⟨#[37, 115, 32, 119, 104, 101, 114, 101, 32, 37, 115, 32, 98, 101, 108, 111, 110, 103, 115]⟩, .slice (some ⟨w1.heap.size, 0, none⟩) 2 2] (w1.alloc (.cells #[.iface 9 (.string s1), .iface 9 (.string s2)] 20)) fun e w' => ErrPost k w e w' := by
  have hB2 : Below w.heap.size w (w1.alloc (.cells #[.iface 9 (.string s1), .iface 9 (.string s2)] 20)) := hB.alloc hB.size _
  refine (fault_of rv k _ _ _ (errorf_want F s1 s2 w1.heap.size _ (hN.below hB2).ans (World.cell?_alloc_at (w := w1) #[_, _] 20 _ 0 rfl) (World.cell?_alloc_at (w := w1) #[_, _] 20 _ 1 rfl))).mono ?_
  rintro e w' ⟨g, u, x, hg, he, hc0, hc1, hb⟩
  exact ⟨g, u, x, Nat.le_trans hB2.size hg, he, hc0, hc1, hB2.trans (hb.mono hB2.size)⟩

theorem want_ok (rv : Value) (w : World) : Calls Ybaf.prog 8 #[rv, .int .u8 5, .int .u8 5] w fun e w' => e = .returned .nilIface ∧ w' = w := by
  go_enter Ybaf.func8, Ybaf.ntmps8
  go_wp2
  go_ret
  exact ⟨rfl, rfl⟩

set_option maxHeartbeats 1000000 in
theorem want_bad (F : Interp) (t : Int) (rb k : Nat) (w : World) (h0 : 0 ≤ t) (h1 : t ≤ 255) (h5 : (t == 5) = false) (hN : Named F w) (hrb : rb < w.heap.size) (hk : w.cell? ⟨rb, 1, none⟩ = some (.int .i64 k)) :
    Calls Ybaf.prog 8 #[.pointer (some ⟨rb, 0, none⟩), .int .u8 t, .int .u8 5] w fun e w' => ErrPost k w e w' := by
  have HN : Hid (Named F w) := hN
  have hBd : Below w.heap.size w w.drew := (Below.refl _ w).drew
  clear hN
  cases h2 : (t == 2)
  all_goals
  go_enter Ybaf.func8, Ybaf.ntmps8
  go_wp2
  go_region_held3 (fun w' => w'.cell? ⟨rb, 1, none⟩ = some (.int .i64 k) ∧ rb < w'.heap.size) (first | (go_keep; done) | (go_split_ands; refine ⟨?_, ?_⟩ <;> (first | assumption | exact alloc_lt (by assumption) | (go_keep; done)))) (first
    | (go_at_call_of 11 t; refine (named_from F t w _ h0 h1 HN.out ?_).mono ?_; (first | exact hBd | assumption); rintro e w1 ⟨s1, rfl, hl1, hB1⟩; have hk1 : w1.cell? ⟨rb, 1, none⟩ = some (.int .i64 k) := (hB1.cell (p := ⟨rb, 1, none⟩) hrb).trans hk; have hr1 : rb < w1.heap.size := Nat.lt_of_lt_of_le hrb hB1.size)
    | (go_at_call 11; refine (named_from F 5 w _ (by omega) (by omega) HN.out ?_).mono ?_; (first | exact hBd | assumption); rintro e w2 ⟨s2, rfl, hl2, hB2⟩; have hk2 : w2.cell? ⟨rb, 1, none⟩ = some (.int .i64 k) := (hB2.cell (p := ⟨rb, 1, none⟩) hrb).trans hk; have hr2 : rb < w2.heap.size := Nat.lt_of_lt_of_le hrb hB2.size)
    | (go_at_call 10; refine (fault_from F _ k _ _ w _ HN.out ?_).mono ?_; assumption; rintro e w3 ⟨g, u, x, hg, rfl, hx0, hx1, hB3⟩; have hk3 : w3.cell? ⟨rb, 1, none⟩ = some (.int .i64 k) := (hB3.cell (p := ⟨rb, 1, none⟩) hrb).trans hk; have hr3 : rb < w3.heap.size := Nat.lt_of_lt_of_le hrb hB3.size))
  all_goals (
    go_wp2
    go_ret
    exact ⟨g, u, x, hg, rfl, hx0, hx1, hB3⟩)
end Go.Proofs.YbulkexmwwFmt
