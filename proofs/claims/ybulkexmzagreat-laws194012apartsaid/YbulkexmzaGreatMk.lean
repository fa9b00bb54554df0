/-
  Rows made on the way through a region that draws its order.
-/
import Derived.Test.YbulkexmzaGreatTr
import Derived.Laws.MakeOwn
namespace Go.Proofs.YbulkexmzaGreat
open Go.RowKit

/-- What make asks of a slice type of one-cell elements. -/
structure Mty (t e : TypeId) (z : Value) : Prop where
  under : Ybaz.prog.underlying t = some (.slice e)
  info : ∃ bytes, (Ybaz.prog.info? e).map (fun i => (i.zero, i.size, i.bytes)) = some (some z, 1, bytes) ∧ bytes ≤ 100
  z1 : z.cells = #[z]
theorem mty46 : Mty 46 3 (.int .i64 0) := ⟨Ybaz.underlying46, ⟨8, Ybaz.info3, by omega⟩, rfl⟩

theorem run_mk {t e : TypeId} {z : Value} (hm : Mty t e z) (l c : Nat) (hlc : l ≤ c) (hc : c ≤ 1000000000) (w : World) :
    (Instr.makeSlice t (.int .i64 (l : Nat)) (.int .i64 (c : Nat))).run Ybaz.prog w = .ok (.slice (some ⟨w.heap.size, 0, none⟩) l c) (w.alloc (.cells (madeCells #[z] c) e)) := by
  obtain ⟨bytes, hinfo, hb⟩ := hm.info
  obtain ⟨i, hi, hzz⟩ := Option.map_eq_some_iff.1 hinfo
  simp only [Prod.mk.injEq] at hzz
  obtain ⟨hz, hs, hbb⟩ := hzz
  have hb2 : i.bytes * c ≤ 100 * 1000000000 := Nat.mul_le_mul (by omega) hc
  have hb' : (i.bytes : Int) * (c : Int) ≤ 281474976710656 := by
    have h : ((i.bytes * c : Nat) : Int) ≤ 281474976710656 := by omega
    rwa [Int.natCast_mul] at h
  have hr := run_make (P := Ybaz.prog) w t e i z hm.under hi hz .i64 .i64 (l : Int) (c : Int) (by omega) (by omega) hb' (by omega)
  simp only [Int.toNat_natCast, hs, Nat.mul_one, hm.z1] at hr
  exact hr

theorem op_make {t e : TypeId} {z : Value} (hm : Mty t e z) {o : Oper} {a : Act} {w : World} {K : Act → World → Prop} {Q : Exit → Act → World → Prop} (l c : Operand) (ho : o.op = .makeSlice t l c) (nl nc : Nat) (el : a.eval l = .int .i64 (nl : Nat)) (ec : a.eval c = .int .i64 (nc : Nat)) (hle : nl ≤ nc) (hb : nc ≤ 1000000000)
    (hK : K (a.put o.dst (.slice (some ⟨w.heap.size, 0, none⟩) nl nc)) (w.alloc (.cells (madeCells #[z] nc) e))) : o.wp Ybaz.prog a w K Q := by
  have hrun := run_mk hm nl nc hle hb w
  unfold Oper.wp
  obtain ⟨dst, op, type, pos, after, guard⟩ := o
  simp only at ho hK
  subst ho
  simp only [execOp, el, ec]
  simp [hrun]
  exact hK

/-- .. and where the number of places is not known but small. -/
structure Mk (w1 w : World) (l : Nat → Bool) (L : List Nat) (g : Nat → Nat) (Z : Nat → Lb) : Prop where
  sz : w1.heap.size ≤ w.heap.size
  row : ∀ j ∈ L, l j = true → w1.heap.size ≤ g j ∧ RowOk w (g j) (Z j)
  ne : ∀ i ∈ L, ∀ j ∈ L, l i = true → l j = true → g i = g j → i = j
section
variable {w1 w w' : World} {l : Nat → Bool} {L : List Nat} {g : Nat → Nat} {Z : Nat → Lb}
theorem Mk.start (w : World) (L : List Nat) (g : Nat → Nat) (Z : Nat → Lb) : Mk w w (fun _ => false) L g Z := ⟨Nat.le_refl _, fun _ _ h => (by cases h), fun _ _ _ _ h => (by cases h)⟩
/-- An operation that makes no row is done. -/
theorem Mk.done (h : Mk w1 w l L g Z) (j : Nat) (hj : ¬ j ∈ L) : Mk w1 w (upd l j true) L g Z :=
  have hu : ∀ i, i ∈ L → upd l j true i = l i := fun i hi => upd_other _ _ (fun e => hj (by rw [← e]; exact hi))
  ⟨h.sz, fun i hi hl => h.row i hi (by rwa [hu i hi] at hl), fun i hi k hk hl hl' => h.ne i hi k hk (by rwa [hu i hi] at hl) (by rwa [hu k hk] at hl')⟩
/-- A row is made. -/
theorem Mk.made (h : Mk w1 w l L g Z) (hs : w.Since w.heap.size w') (j x : Nat) (hj : l j = false) (hx : w.heap.size ≤ x) (hr : RowOk w' x (Z j)) : Mk w1 w' (upd l j true) L (upd g j x) Z := by
  refine ⟨Nat.le_trans h.sz hs.size, fun i hi hl => ?_, fun i hi k hk hl hl' e => ?_⟩
  · by_cases e : i = j
    · subst e; rw [upd_same]; exact ⟨Nat.le_trans h.sz hx, hr⟩
    · rw [upd_other _ _ e] at hl ⊢
      obtain ⟨h1, h2⟩ := h.row i hi hl
      exact ⟨h1, h2.of_block (hs.block _ h2.lt)⟩
  · by_cases e1 : i = j
    · by_cases e2 : k = j
      · omega
      · subst e1
        rw [upd_same, upd_other _ _ e2] at e
        rw [upd_other _ _ e2] at hl'
        have := (h.row k hk hl').2.lt
        omega
    · by_cases e2 : k = j
      · subst e2
        rw [upd_same, upd_other _ _ e1] at e
        rw [upd_other _ _ e1] at hl
        have := (h.row i hi hl).2.lt
        omega
      · rw [upd_other _ _ e1, upd_other _ _ e2] at e
        rw [upd_other _ _ e1] at hl
        rw [upd_other _ _ e2] at hl'
        exact h.ne i hi k hk hl hl' e
theorem Mk.make (h : Mk w1 w l L g Z) (j : Nat) (hj : l j = false) (o : Obj) (hr : RowOk (w.alloc o) w.heap.size (Z j)) : Mk w1 (w.alloc o) (upd l j true) L (upd g j w.heap.size) Z :=
  h.made (alloc_since _ _) j _ hj (Nat.le_refl _) hr
/-- An elder block is written. -/
theorem Mk.set (h : Mk w1 w l L g Z) {b : Nat} (hb : b < w1.heap.size) (i : Nat) (v : Value) : Mk w1 (w.setCell ⟨b, i, none⟩ v) l L g Z := by
  refine ⟨by simpa [World.setCell] using h.sz, fun j hj hl => ?_, h.ne⟩
  obtain ⟨h1, h2⟩ := h.row j hj hl
  exact ⟨h1, h2.of_block (Go.Deep.blk_setCell_other _ _ _ _ (by show g j ≠ b; omega))⟩
/-- A row made on the way is written. -/
theorem Mk.put (h : Mk w1 w l L g Z) (j : Nat) (hj : j ∈ L) (hl : l j = true) {i : Nat} {v : Value} (hv : (Z j).p i v) : Mk w1 (w.setCell ⟨g j, i, none⟩ v) l L g Z := by
  refine ⟨by simpa [World.setCell] using h.sz, fun k hk hlk => ?_, h.ne⟩
  obtain ⟨h1, h2⟩ := h.row k hk hlk
  refine ⟨h1, ?_⟩
  by_cases e : k = j
  · subst e
    exact h2.set (Z k) rfl rfl hv (fun _ _ _ _ hp => hp)
  · exact h2.of_block (Go.Deep.blk_setCell_other _ _ _ _ (fun e' => e (h.ne k hk j hj hlk hl e')))
/-- .. and an elder block, or another of them, keeps its cells. -/
theorem Mk.far (_ : Mk w1 w l L g Z) (j : Nat) {b : Nat} (hb : b ≠ g j) (i i' : Nat) (v : Value) : (w.setCell ⟨g j, i, none⟩ v).cell? ⟨b, i', none⟩ = w.cell? ⟨b, i', none⟩ := by
  exact World.cell?_setCell_other _ _ _ _ (fun e => hb (by simpa using (congrArg Addr.block e).symm))
theorem Mk.alloc (h : Mk w1 w l L g Z) (o : Obj) : Mk w1 (w.alloc o) l L g Z :=
  ⟨Nat.le_trans h.sz (alloc_since w o).size, fun j hj hl => ⟨(h.row j hj hl).1, (h.row j hj hl).2.of_block (Go.Deep.blk_alloc_lt _ _ _ (h.row j hj hl).2.lt)⟩, h.ne⟩
end
/-- A new register out of a row. -/
theorem St.add {w0 w : World} {K : Nat} {E : Nat → Nat} {B : Nat → Lb} (h : St w0 w K E B) (g : Nat) (lb : Lb) (hr : RowOk w g lb) (hb : w0.heap.size ≤ g) (hne : ∀ k, k < K → E k ≠ g) : St w0 w (K + 1) (upd E K g) (upd B K lb) := by
  refine ⟨h.since, fun k hk => ?_, fun k hk => ?_, fun i j hi hj e => ?_⟩
  · by_cases e : k = K
    · subst e; rw [upd_same, upd_same]; exact hr
    · rw [upd_other _ _ e, upd_other _ _ e]; exact h.row k (by omega)
  · by_cases e : k = K
    · subst e; rw [upd_same]; exact hb
    · rw [upd_other _ _ e]; exact h.base k (by omega)
  · by_cases e1 : i = K
    · by_cases e2 : j = K
      · omega
      · subst e1; rw [upd_same, upd_other _ _ e2] at e; exact absurd e.symm (hne j (by omega))
    · by_cases e2 : j = K
      · subst e2; rw [upd_same, upd_other _ _ e1] at e; exact absurd e (hne i (by omega))
      · rw [upd_other _ _ e1, upd_other _ _ e2] at e; exact h.inj i j (by omega) (by omega) e
/-- What all registers meet, said otherwise. -/
theorem St.recast {w0 w : World} {K : Nat} {E : Nat → Nat} {B : Nat → Lb} (h : St w0 w K E B) (B' : Nat → Lb) (h' : ∀ k, k < K → (B' k).t = (B k).t ∧ (B' k).n = (B k).n ∧ ∀ i v, i < (B k).n → (B k).p i v → (B' k).p i v) : St w0 w K E B' :=
  ⟨h.since, fun k hk => (h.row k hk).wkn (h' k hk).1 (h' k hk).2.1 (h' k hk).2.2, h.base, h.inj⟩
theorem same_lb {b b' : Lb} (e : b' = b) : b'.t = b.t ∧ b'.n = b.n ∧ ∀ i v, i < b.n → b.p i v → b'.p i v := by subst e; exact ⟨rfl, rfl, fun _ _ _ h => h⟩
/-- Another block is written. -/
theorem St.other {w0 w : World} {K : Nat} {E : Nat → Nat} {B : Nat → Lb} (h : St w0 w K E B) {b : Nat} (hb : w0.heap.size ≤ b) (hne : ∀ k, k < K → E k ≠ b) (i : Nat) (v : Value) : St w0 (w.setCell ⟨b, i, none⟩ v) K E B :=
  ⟨h.since.setCell hb _, fun k hk => (h.row k hk).of_block (Go.Deep.blk_setCell_other _ _ _ _ (hne k hk)), h.base, h.inj⟩
/-- One cell of whatever kind. -/
def any1 (t : TypeId) : Lb := ⟨t, 1, fun _ _ => True⟩
theorem rowOk_any1 (w : World) (v : Value) (t : TypeId) : RowOk (w.alloc (.cells #[v] t)) w.heap.size (any1 t) := ⟨#[v], Go.Deep.blk_alloc_new _ _, rfl, fun _ _ _ => trivial⟩
/-- A row of zeros. -/
def zrow (t : TypeId) (n : Nat) (z : Value) : Lb := ⟨t, n, fun _ u => u = z⟩
theorem rowOk_z (w : World) (z : Value) (n : Nat) (t : TypeId) : RowOk (w.alloc (.cells (madeCells #[z] n) t)) w.heap.size (zrow t n z) := rowOk_made w z n t
end Go.Proofs.YbulkexmzaGreat
