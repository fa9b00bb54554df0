/-
  THE LAW's WALK (3), first part: the calls' contracts in the form that the law wants; another type than i32.
-/
import Derived.Test.YbulkexmwwFmtInt
import Derived.Test.YbulkexmwwFmtClone
import Derived.Test.YbulkexmwwFmtCerr
namespace Go.Proofs.YbulkexmwwFmt
open Go.RowKit Go.Extern.Stop Go.Stop Go.Extern

/-- The slice that came in, as the law's walk wants it. -/
structure Bytes (w : World) (ao : Option Addr) (n c : Nat) (zs : List Int) : Prop where
  nil : ao = none → n = 0 ∧ c = 0
  cell : ∀ a, ao = some a → ∀ j, j < n → w.cell? (a.add j) = some (.int .u8 (zs.getD j 0))
  len : zs.length = n
  cap : n ≤ c
  max : n ≤ 1048576
  range : ∀ j : Nat, 0 ≤ zs[j]?.getD 0 ∧ zs[j]?.getD 0 ≤ 255

theorem Bytes.below {w w' : World} {ao : Option Addr} {n c : Nat} {zs : List Int} (h : Bytes w ao n c zs) (hb : Below w.heap.size w w') : Bytes w' ao n c zs :=
  ⟨h.nil, fun a ha j hj => (hb.cell (p := a.add j) (World.block_lt_of_cell? _ _ (h.cell a ha j hj))).trans (h.cell a ha j hj), h.len, h.cap, h.max, h.range⟩

/-- Where there is a byte, the address is a plain one. -/
theorem Bytes.plain {w : World} {a : Addr} {n c : Nat} {zs : List Int} (h : Bytes w (some a) n c zs) (hn : 0 < n) : ∃ b off, a = ⟨b, off, none⟩ ∧ ∀ j, j < n → w.cell? ⟨b, off + j, none⟩ = some (.int .u8 (zs.getD j 0)) := by
  obtain ⟨b, off, sp⟩ := a
  have hs : sp = none := by simpa [Addr.add] using World.cell?_spot (h.cell _ rfl 0 hn)
  subst hs
  exact ⟨b, off, rfl, fun j hj => by rw [← Go.WideShapes.add_plain]; exact h.cell _ rfl j hj⟩

theorem conv_empty (a : Addr) (c : Nat) (w : World) : (convert 22 9 (.slice (some a) 0 c)).run Ybaf.prog w = .ok (.string (strOfNums [])) w := by kernel_rfl

theorem Bytes.convert {w : World} {ao : Option Addr} {n c : Nat} {zs : List Int} (h : Bytes w ao n c zs) : (convert 22 9 (.slice ao n c)).run Ybaf.prog w = .ok (.string (strOfNums zs)) w := by
  cases ao with
  | none =>
    obtain ⟨h1, h2⟩ := h.nil rfl
    have hl := h.len
    subst h1; subst h2
    obtain rfl : zs = [] := List.eq_nil_of_length_eq_zero hl
    exact run_convert_bytes_nil w 22 5 Ybaf.underlying22 Ybaf.underlying5 0 0 9 Ybaf.underlying9
  | some a =>
    by_cases hn : 0 < n
    · obtain ⟨b, off, rfl, hc⟩ := h.plain hn
      exact run_convert_bytes_arg w 22 5 Ybaf.underlying22 Ybaf.underlying5 b off n c zs h.len hc 9 Ybaf.underlying9
    · obtain rfl : n = 0 := by omega
      obtain rfl : zs = [] := List.eq_nil_of_length_eq_zero h.len
      exact conv_empty a c w

theorem clone_uni (w : World) (ao : Option Addr) (n c : Nat) (zs : List Int) (h : Bytes w ao n c zs) :
    Calls Ybaf.prog 4 #[.slice ao n c] w fun e w' => ∃ v, e = .returned v ∧ Below w.heap.size w w' ∧ ∀ w2, Below w'.heap.size w' w2 → (convert 22 9 v).run Ybaf.prog w2 = .ok (.string (strOfNums zs)) w2 := by
  cases ao with
  | none =>
    obtain ⟨h1, h2⟩ := h.nil rfl
    have hl := h.len
    subst h1; subst h2
    obtain rfl : zs = [] := List.eq_nil_of_length_eq_zero hl
    refine (clone_nil w).mono ?_
    rintro e w' ⟨rfl, rfl⟩
    exact ⟨_, rfl, Below.refl _ _, fun w2 _ => run_convert_bytes_nil w2 22 5 Ybaf.underlying22 Ybaf.underlying5 0 0 9 Ybaf.underlying9⟩
  | some a =>
    refine (clone_any a n c zs w h.len h.max (fun j hj => h.cell _ rfl j hj)).mono ?_
    rintro e w' ⟨g, cap, rfl, hg, hown, hB⟩
    refine ⟨_, rfl, hB, fun w2 hb2 => ?_⟩
    have hlt := hown.lt g rfl
    refine run_convert_bytes_arg w2 22 5 Ybaf.underlying22 Ybaf.underlying5 g 0 n cap zs h.len (fun j hj => ?_) 9 Ybaf.underlying9
    rw [hb2.cell (p := ⟨g, 0 + j, none⟩) hlt.2]
    have hj' : j < zs.length := by rw [h.len]; exact hj
    have := hown.cells rfl j (.int .u8 (zs.getD j 0)) (by simp [hj'])
    simpa [Go.WideShapes.add_plain] using this

/-- What Int32 leaves of the reader, in the law's own terms. -/
structure After (w1 : World) (ao : Option Addr) (n c : Nat) (at_ depth : Int) (w3 : World) : Prop where
  below : Below w1.heap.size w1 w3
  c0 : w3.cell? ⟨w1.heap.size, 0, none⟩ = some (.slice ao n c)
  c1 : w3.cell? ⟨w1.heap.size, 1, none⟩ = some (.int .i64 at_)
  c2 : w3.cell? ⟨w1.heap.size, 2, none⟩ = some (.int .i64 depth)

theorem after_same {w1 w3 : World} {ao : Option Addr} {n c : Nat} {k depth : Int}
    (hb : Below (w1.alloc (.cells #[.slice ao n c, .int .i64 k, .int .i64 depth] 28)).heap.size (w1.alloc (.cells #[.slice ao n c, .int .i64 k, .int .i64 depth] 28)) w3) : After w1 ao n c k depth w3 := by
  have hl : w1.heap.size < (w1.alloc (.cells #[.slice ao n c, .int .i64 k, .int .i64 depth] 28)).heap.size := by simp
  refine ⟨((Below.refl _ w1).alloc (Nat.le_refl _) _).trans (hb.mono (by omega)), ?_, ?_, ?_⟩
  · rw [hb.cell (p := ⟨w1.heap.size, 0, none⟩) hl]; exact World.cell?_alloc_at (w := w1) #[_, _, _] 28 _ 0 rfl
  · rw [hb.cell (p := ⟨w1.heap.size, 1, none⟩) hl]; exact World.cell?_alloc_at (w := w1) #[_, _, _] 28 _ 1 rfl
  · rw [hb.cell (p := ⟨w1.heap.size, 2, none⟩) hl]; exact World.cell?_alloc_at (w := w1) #[_, _, _] 28 _ 2 rfl

theorem after_moved {w1 w3 : World} {ao : Option Addr} {n c : Nat} {k m depth : Int}
    (hb : Below (w1.alloc (.cells #[.slice ao n c, .int .i64 k, .int .i64 depth] 28)).heap.size ((w1.alloc (.cells #[.slice ao n c, .int .i64 k, .int .i64 depth] 28)).setCell ⟨w1.heap.size, 1, none⟩ (.int .i64 m)) w3) : After w1 ao n c m depth w3 := by
  rw [World.setCell_alloc_at _ _ _ _ _ rfl] at hb
  have hl : w1.heap.size < (w1.alloc (.cells #[.slice ao n c, .int .i64 k, .int .i64 depth] 28)).heap.size := by simp
  refine ⟨((Below.refl _ w1).alloc (Nat.le_refl _) _).trans (hb.mono (by omega)), ?_, ?_, ?_⟩
  · rw [hb.cell (p := ⟨w1.heap.size, 0, none⟩) hl]; exact World.cell?_alloc_at (w := w1) _ 28 _ 0 rfl
  · rw [hb.cell (p := ⟨w1.heap.size, 1, none⟩) hl]; exact World.cell?_alloc_at (w := w1) _ 28 _ 1 rfl
  · rw [hb.cell (p := ⟨w1.heap.size, 2, none⟩) hl]; exact World.cell?_alloc_at (w := w1) _ 28 _ 2 rfl

theorem start_k (n : Nat) (at_ : Int) (hn : (n : Int) ≤ 1048576) : ∃ k : Nat, wrap64 (at_ % ((n : Int) + 1)) = (k : Int) ∧ k ≤ n := by
  have h0 := Int.emod_nonneg at_ (show ((n : Int) + 1) ≠ 0 by omega)
  have h1 := Int.emod_lt_of_pos at_ (show 0 < ((n : Int) + 1) by omega)
  refine ⟨(at_ % ((n : Int) + 1)).toNat, ?_, by omega⟩
  rw [wrap64_small _ (by omega) (by omega)]
  omega

set_option maxRecDepth 100000 in
set_option maxHeartbeats 1000000 in
theorem law_big (ao : Option Addr) (n c : Nat) (at_ depth t : Int) (b : Bool) (w : World) (h : 1048576 < n) :
    Calls Ybaf.prog 3 #[.slice ao n c, .int .u64 at_, .int .i64 depth, .int .u8 t, .bool b] w fun e w' => e = .returned (.bool true) ∧ w' = w := by
  have h' : (1048576 : Int) < (n : Int) := by omega
  go_enter Ybaf.func3, Ybaf.ntmps3
  go_wp2
  go_ret
  exact ⟨rfl, rfl⟩

set_option maxRecDepth 100000 in
set_option maxHeartbeats 1000000 in
theorem law_bad (F : Interp) (ao : Option Addr) (n c : Nat) (zs : List Int) (at_ depth t : Int) (w : World) (hb : Bytes w ao n c zs) (hat0 : 0 ≤ at_) (hat1 : at_ ≤ 18446744073709551615)
    (h0 : 0 ≤ t) (h1 : t ≤ 255) (h5 : (t == 5) = false) (hN : Named F w) :
    Calls Ybaf.prog 3 #[.slice ao n c, .int .u64 at_, .int .i64 depth, .int .u8 t, .bool false] w fun e w' => e = .returned (.bool true) ∧ Below w.heap.size w w' := by
  have hn : (n : Int) ≤ 1048576 := by have := hb.max; omega
  obtain ⟨k, hk, hkn⟩ := start_k n at_ hn
  have HB : Hid (Bytes w ao n c zs) := hb
  have HN : Hid (Named F w) := hN
  clear hb hN
  go_enter Ybaf.func3, Ybaf.ntmps3
  go_wp2_with fail
  refine (clone_uni w ao n c zs HB.out).mono ?_
  rintro e w1 ⟨v, rfl, hB1, hv⟩
  have HV : Hid _ := hv
  clear hv
  go_wp2_with fail
  have hB2 : Below w.heap.size w (w1.alloc (.cells #[.slice ao n c, .int .i64 k, .int .i64 depth] 28)) := hB1.alloc hB1.size _
  refine (int32_bad F t w1.heap.size k _ h0 h1 h5 (HN.out.below hB2) (by simp) (World.cell?_alloc_at (w := w1) #[_, _, _] 28 _ 1 rfl)).mono ?_
  rintro e w3 ⟨g, u, x, hg, rfl, hx0, hx1, hB3⟩
  obtain ⟨hA, hc0, hc1, hc2⟩ := after_same hB3
  have hBB : Below w.heap.size w w3 := hB1.trans (hA.mono hB1.size)
  clear hB3 hB2
  go_wp2_with (first
    | (go_at_call 6; refine (equal_any _ _ zs _ ((HB.out.below hBB).convert) (HV.out _ hA)).mono ?_; rintro e w' ⟨rfl, hw⟩; cases hw)
    | (go_at_call 7; refine (cerr_any g k u x _ _ hx0 hx1).mono ?_; rintro e w' ⟨rfl, hw⟩; cases hw))
  go_ret
  exact ⟨rfl, hBB⟩
end Go.Proofs.YbulkexmwwFmt
