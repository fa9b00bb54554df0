/-
  THE STATE BEHIND link.layout; small laws for the walk over link.LawS194012BWhole (3).
-/
import Derived.Test.YbulkexmzaTailD
namespace Go.Proofs.Ybulkexmza
open Go.RowKit Go.Maps

theorem wp_seq_hid {P : Program} {Q : Exit → Act → World → Prop} {a : Act} {w : World} {x y : Code} (h : ∀ K : Act → World → Prop, Hid (∀ a w, y.wp P Q a w → K a w) → x.wp P (Exit.then K Q) a w) : (Code.seq x y).wp P Q a w := wp_seq_k h

theorem rem4 (z : Nat) : Int.tmod (z : Int) 4 = ((z % 4 : Nat) : Int) := by rw [show (4 : Int) = ((4 : Nat) : Int) from rfl, Int.ofNat_tmod]
theorem eqin34 (a : Addr) (n : Nat) (w : World) : (Op.equalIn (n + 1) 34 (.pointer (some a)) (.pointer (some a))).run Yba.prog w = .ok true w := by
  simp [Op.equalIn, run_underlying Yba.underlying34, sameAddr]
theorem neq34 (a : Addr) (w : World) : (binOp .neq 34 (.pointer (some a)) (.pointer (some a))).run Yba.prog w = .ok (.bool false) w := by
  simp only [binOp]
  simp [Op.equal, show Op.maxDepth = 9999 + 1 from rfl, eqin34]
theorem neq36 (w : World) : (binOp .neq 36 (.slice none 0 0) (.slice none 0 0)).run Yba.prog w = .ok (.bool false) w := by kernel_rfl
theorem neq33 (w : World) : (binOp .neq 33 (.slice none 0 0) (.slice none 0 0)).run Yba.prog w = .ok (.bool false) w := by kernel_rfl
theorem eql33 (a : Addr) (n c : Nat) (w : World) : (binOp .eql 33 (.slice (some a) n c) (.slice none 0 0)).run Yba.prog w = .ok (.bool false) w := by kernel_rfl

theorem wrap_i64 (n : Nat) (h : n < 9223372036854775808) : IntKind.i64.wrap (n : Int) = (n : Int) := by
  simp [IntKind.wrap, IntKind.bits, IntKind.signed]; omega

theorem InM.drewN {w : World} {X : Inp} {ra : Option Addr} {rb ro : Nat} {A : Nat → Option Addr} {C AB AO : Nat → Nat} (h : InM w X ra rb ro A C AB AO) (n : Nat) : InM (w.drewN n) X ra rb ro A C AB AO := by
  have k : ∀ a, (w.drewN n).cell? a = w.cell? a := fun a => by simp
  exact ⟨h.ad, fun r hr => (k _).trans (h.c0 r hr), fun r hr => (k _).trans (h.c1 r hr), fun r hr => (k _).trans (h.c2 r hr), fun r hr => (k _).trans (h.c3 r hr), h.sa, fun r hr j hj => (k _).trans (h.s0 r hr j hj), fun r hr j hj => (k _).trans (h.s1 r hr j hj), fun r hr j hj => (k _).trans (h.s2 r hr j hj), fun r hr j hj => (k _).trans (h.s3 r hr j hj), fun r hr j hj => (k _).trans (h.s4 r hr j hj)⟩

/-- Behind layout: what is laid, the table got, the table wanted. -/
structure CS (w wr : World) (X : Inp) (mb mw n : Nat) (D : DataW Unit) : Prop where
  mem : Mem w wr X X.G X.v1
  got : wr.ownsMap Yba.prog 9 (plainElem Yba.prog 40) mb (sumN X.L X.G) (X.tab X.G)
  want : wr.ownsMap Yba.prog 9 (plainElem Yba.prog 40) mw n D
  ne : mb ≠ mw
  mws : w.heap.size ≤ mw

section
variable {w wr wr' : World} {X : Inp} {mb mw n n' r : Nat} {D D' : DataW Unit}
theorem CS.start (h : Mem w wr X X.G X.v1) (hg : wr.ownsMap Yba.prog 9 (plainElem Yba.prog 40) mb (sumN X.L X.G) (X.tab X.G)) : CS w (wr.alloc (.map #[] 0)) X mb wr.heap.size (sumN X.L 0) (X.tab 0) :=
  ⟨h.alloc _, hg.alloc _, World.ownsMap_made _ _ _ _, Nat.ne_of_lt hg.lt, h.since.size⟩
theorem CS.put (h : CS w wr X mb mw n D) (ho : wr'.ownsMap Yba.prog 9 (plainElem Yba.prog 40) mw n' D') (hg : wr.grownBy wr' (some mw)) : CS w wr' X mb mw n' D' :=
  ⟨h.mem.kept hg (fun d hd => by cases hd; exact ⟨ownsMap_noRow h.want, h.mws⟩), h.got.kept hg (by simpa using h.ne), ho, h.ne, h.mws⟩
theorem CS.drew (h : CS w wr X mb mw n D) : CS w wr.drew X mb mw n D := ⟨h.mem.drew, h.got.drew, h.want.drew, h.ne, h.mws⟩
theorem CS.drewN (h : CS w wr X mb mw n D) (m : Nat) : CS w (wr.drewN m) X mb mw n D := by
  induction m with
  | zero => exact h
  | succ m ih => exact ih.drew
theorem CS.num (h : CS w wr X mb mw n D) (hr : r < X.G) : wr.cell? ⟨w.heap.size, r, none⟩ = some (.pointer (some ⟨X.pb w.heap.size r, 0, none⟩)) ∧ wr.cell? ⟨w.heap.size + 1, r, none⟩ = some (.slice (some ⟨X.bb w.heap.size r, 0, none⟩) (X.L r) (X.L r)) ∧
    wr.cell? ⟨X.pb w.heap.size r, 0, none⟩ = some (.string (X.N r)) ∧ wr.cell? ⟨X.pb w.heap.size r, 1, none⟩ = some (.int .u8 ((X.K r % 4 : Nat) : Int)) ∧ wr.cell? ⟨X.pb w.heap.size r, 2, none⟩ = some (.slice (some ⟨X.h w.heap.size r, 0, none⟩) (X.L r) (X.L r)) ∧
    wr.cell? ⟨X.pb w.heap.size r, 3, none⟩ = some (.int .u64 ((X.off r : Nat) : Int)) ∧ wr.cell? ⟨X.pb w.heap.size r, 4, none⟩ = some (.int .u64 ((4194304 + X.off r : Nat) : Int)) ∧ wr.cell? ⟨X.pb w.heap.size r, 5, none⟩ = some (.int .u64 ((X.sz r (X.L r) : Nat) : Int)) ∧
    wr.cell? ⟨X.pb w.heap.size r, 6, none⟩ = some (.int .u64 ((X.pal r (X.L r) : Nat) : Int)) := by
  have hp := h.mem.part r hr
  refine ⟨?_, ?_, hp.cell (i := 0) (by omega), hp.cell (i := 1) (by omega), hp.cell (i := 2) (by omega), hp.cell (i := 3) (by omega), hp.cell (i := 4) (by omega), hp.cell (i := 5) (by omega), hp.cell (i := 6) (by omega)⟩
  · rw [h.mem.parts.cell hr]; simp [hr]
  · rw [h.mem.built.cell hr]; simp [hr]
end
end Go.Proofs.Ybulkexmza
