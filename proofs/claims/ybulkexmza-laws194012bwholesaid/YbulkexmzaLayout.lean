/-
  THE WALKS over link.symSize (11), link.layout (6).
-/
import Derived.Test.YbulkexmzaLay
import Derived.Deep.LoopGhost
import Derived.Deep.DeepCutAuto
import Derived.BigQuiet
import Derived.StillTailTactics
namespace Go.Proofs.Ybulkexmza
open Go.RowKit Go.Maps

/-- A region that draws its order: its first n operations only read, the others follow in the text's order. -/
theorem region_tail {P : Program} {id : Nat} {Q : Exit → Act → World → Prop} {a : Act} {w : World} {l : List Oper} (n : Nat) (hm : P.follows .mixedOrders = true) (hB : Region.lexTailB .any l.toArray n = true)
    (h : wpStill P l.toArray w.drew (fun a' => wpList P l.toArray Q (l.drop n) a' w.drew) (l.take n) a) : (Code.region id l.toArray true).wp P Q a w :=
  wp_region_still_tail n hm hB h

theorem keyed : Keyed Yba.prog 9 := string_keyed Yba.underlying9
theorem zero40 (w : World) : (zeroValue 40).run Yba.prog w = .ok (.int .u64 0) w := by kernel_rfl

theorem page_any (n : Nat) (hb : n < 9223372036854775808) (w : World) : Calls Yba.prog 10 #[.int .u64 n, .int .u64 4096] w fun e w' => e = .returned (.int .u64 (up n 4096)) ∧ w = w' :=
  alignUp_any n 12 (by omega) hb w

section
variable {w wr wr' : World} {X : Inp} {mb r n a b c d S j B : Nat} {D : DataW Unit}

set_option maxRecDepth 100000 in
theorem symSize_any (h : wr.rowIs B 38 6 (X.symf S r j)) (_hs : X.SZ r j < 65536) (_hd : X.SD r j < 256) : Calls Yba.prog 11 #[.pointer (some ⟨B, 0, none⟩)] wr fun e w' => e = .returned (.int .i64 (X.tk r j)) ∧ wr = w' := by
  have c1 := h.cell (i := 1) (by omega)
  have c2 := h.cell (i := 2) (by omega)
  have c3 := h.cell (i := 3) (by omega)
  have ht : X.tk r j = if X.SK r j % 4 = 2 then X.SZ r j else X.SD r j := rfl
  have hk := Nat.mod_lt (X.SK r j) (show 0 < 4 by omega)
  simp only [Inp.symf, if_true, if_false, Nat.reduceEqDiff] at c1 c2 c3
  clear h
  generalize X.tk r j = t at *
  generalize X.SK r j % 4 = k at *
  by_cases hk2 : k = 2
  · subst hk2
    simp only [if_true] at ht c2
    subst ht
    go_enter Yba.func11, Yba.ntmps11
    go_wp2
    go_ret
    exact ⟨rfl, rfl⟩
  · have hkb : ((k : Int) == 2) = false := by simp; omega
    simp only [hk2, if_false] at ht c2
    subst ht
    go_enter Yba.func11, Yba.ntmps11
    go_wp2
    go_ret
    exact ⟨rfl, rfl⟩

/-- The four numbers written out. -/
def nf (a b c d i : Nat) : Nat := if i = 3 then a else if i = 4 then b else if i = 5 then c else d

/-- The state within layout: parts below r are done, part r's numbers are a b c d; the table. -/
structure LS (w wr : World) (X : Inp) (mb r n a b c d : Nat) (D : DataW Unit) : Prop where
  mem : Mem w wr X X.G (X.vr r (nf a b c d))
  map : wr.ownsMap Yba.prog 9 (plainElem Yba.prog 40) mb n D
  mbs : w.heap.size ≤ mb

theorem LS.mapSet (h : LS w wr X mb r n a b c d D) (hr : r < X.G) (k : Nat) (v : Value) : (wr.setCell ⟨X.pb w.heap.size r, k, none⟩ v).ownsMap Yba.prog 9 (plainElem Yba.prog 40) mb n D := by
  obtain ⟨es, clock, hb, F⟩ := h.map
  refine ⟨es, clock, ?_, F⟩
  rw [← hb]
  exact Go.Deep.blk_setCell_other _ _ _ _ (fun e => ownsMap_noRow h.map _ _ _ _ (h.mem.part r hr) e.symm)
theorem nf_congr {f : Nat → Nat} (h : Mem w wr X X.G (X.vr r f)) (e : ∀ i, 3 ≤ i → i < 7 → f i = nf a b c d i) : Mem w wr X X.G (X.vr r (nf a b c d)) :=
  h.congr (fun j _ i h3 h7 => by
    unfold Inp.vr
    split
    · rfl
    · split
      · exact e i h3 h7
      · rfl)
theorem LS.set3 (h : LS w wr X mb r n a b c d D) (hr : r < X.G) (x : Nat) : LS w (wr.setCell ⟨X.pb w.heap.size r, 3, none⟩ (.int .u64 (x : Nat))) X mb r n x b c d D :=
  ⟨nf_congr (h.mem.setP hr (Nat.le_refl _)) (fun i h3 h7 => by simp only [nf]; split <;> rfl), h.mapSet hr _ _, h.mbs⟩
theorem LS.set4 (h : LS w wr X mb r n a b c d D) (hr : r < X.G) (x : Nat) : LS w (wr.setCell ⟨X.pb w.heap.size r, 4, none⟩ (.int .u64 (x : Nat))) X mb r n a x c d D :=
  ⟨nf_congr (h.mem.setP hr (by omega)) (fun i h3 h7 => by
    have : i = 3 ∨ i = 4 ∨ i = 5 ∨ i = 6 := by omega
    rcases this with rfl | rfl | rfl | rfl <;> simp [nf]), h.mapSet hr _ _, h.mbs⟩
theorem LS.set5 (h : LS w wr X mb r n a b c d D) (hr : r < X.G) (x : Nat) : LS w (wr.setCell ⟨X.pb w.heap.size r, 5, none⟩ (.int .u64 (x : Nat))) X mb r n a b x d D :=
  ⟨nf_congr (h.mem.setP hr (by omega)) (fun i h3 h7 => by
    have : i = 3 ∨ i = 4 ∨ i = 5 ∨ i = 6 := by omega
    rcases this with rfl | rfl | rfl | rfl <;> simp [nf]), h.mapSet hr _ _, h.mbs⟩
theorem LS.set6 (h : LS w wr X mb r n a b c d D) (hr : r < X.G) (x : Nat) : LS w (wr.setCell ⟨X.pb w.heap.size r, 6, none⟩ (.int .u64 (x : Nat))) X mb r n a b c x D :=
  ⟨nf_congr (h.mem.setP hr (by omega)) (fun i h3 h7 => by
    have : i = 3 ∨ i = 4 ∨ i = 5 ∨ i = 6 := by omega
    rcases this with rfl | rfl | rfl | rfl <;> simp [nf]), h.mapSet hr _ _, h.mbs⟩
theorem LS.put {n' : Nat} {D' : DataW Unit} (h : LS w wr X mb r n a b c d D) (ho : wr'.ownsMap Yba.prog 9 (plainElem Yba.prog 40) mb n' D') (hg : wr.grownBy wr' (some mb)) : LS w wr' X mb r n' a b c d D' :=
  ⟨h.mem.kept hg (fun d hd => by cases hd; exact ⟨ownsMap_noRow h.map, h.mbs⟩), ho, h.mbs⟩
theorem LS.drew (h : LS w wr X mb r n a b c d D) : LS w wr.drew X mb r n a b c d D := ⟨h.mem.drew, h.map.drew, h.mbs⟩
theorem LS.drewN (h : LS w wr X mb r n a b c d D) (m : Nat) : LS w (wr.drewN m) X mb r n a b c d D := by
  induction m with
  | zero => exact h
  | succ m ih => exact ih.drew

theorem LS.start (h : Mem w wr X X.G X.v0) : LS w (wr.alloc (.map #[] 0)) X wr.heap.size 0 (sumN X.L 0) 7 9 (X.I 0) 3 (X.tab 0) :=
  ⟨(h.alloc _).congr (fun j _ i h3 h7 => by
    unfold Inp.vr
    by_cases e : j = 0
    · subst e; rfl
    · simp [e]), World.ownsMap_made _ _ _ _, h.since.size⟩
theorem LS.next (h : LS w wr X mb r (sumN X.L r + X.L r) (X.off r) (4194304 + X.off r) (X.sz r (X.L r)) (X.pal r (X.L r)) (X.tb (X.tab r) r (X.L r))) : LS w wr X mb (r + 1) (sumN X.L (r + 1)) 7 9 (X.I (r + 1)) 3 (X.tab (r + 1)) :=
  ⟨h.mem.congr (fun j _ i h3 h7 => by
    unfold Inp.vr
    rcases Nat.lt_trichotomy j r with hlt | e | hlt
    · simp [hlt, show j < r + 1 by omega]
    · subst e
      simp only [Nat.lt_irrefl, if_false, if_true, Nat.lt_succ_self, nf, Inp.v1]
    · by_cases e : j = r + 1
      · subst e
        simp only [if_neg (show ¬ r + 1 < r by omega), if_neg (show ¬ r + 1 = r by omega), Nat.lt_irrefl, if_false, if_true, nf, Inp.v0]
      · simp [show ¬ j < r by omega, show ¬ j = r by omega, show ¬ j < r + 1 by omega, e]), h.map, h.mbs⟩
theorem LS.done (h : LS w wr X mb X.G n a b c d D) : Mem w wr X X.G X.v1 :=
  h.mem.congr (fun j hj i _ _ => by simp [Inp.vr, hj])

theorem LS.ptr (h : LS w wr X mb r n a b c d D) (hr : r < X.G) : wr.cell? ⟨w.heap.size, r, none⟩ = some (.pointer (some ⟨X.pb w.heap.size r, 0, none⟩)) := by
  rw [h.mem.parts.cell hr]; simp [hr]
theorem LS.kind (h : LS w wr X mb r n a b c d D) (hr : r < X.G) : wr.cell? ⟨X.pb w.heap.size r, 1, none⟩ = some (.int .u8 ((X.K r % 4 : Nat) : Int)) := (h.mem.part r hr).cell (i := 1) (by omega)
theorem LS.sl (h : LS w wr X mb r n a b c d D) (hr : r < X.G) : wr.cell? ⟨X.pb w.heap.size r, 2, none⟩ = some (.slice (some ⟨X.h w.heap.size r, 0, none⟩) (X.L r) (X.L r)) := (h.mem.part r hr).cell (i := 2) (by omega)
theorem LS.n3 (h : LS w wr X mb r n a b c d D) (hr : r < X.G) : wr.cell? ⟨X.pb w.heap.size r, 3, none⟩ = some (.int .u64 a) := h.mem.num hr (by omega) (by omega)
theorem LS.n4 (h : LS w wr X mb r n a b c d D) (hr : r < X.G) : wr.cell? ⟨X.pb w.heap.size r, 4, none⟩ = some (.int .u64 b) := h.mem.num hr (by omega) (by omega)
theorem LS.n5 (h : LS w wr X mb r n a b c d D) (hr : r < X.G) : wr.cell? ⟨X.pb w.heap.size r, 5, none⟩ = some (.int .u64 c) := h.mem.num hr (by omega) (by omega)
theorem LS.n6 (h : LS w wr X mb r n a b c d D) (hr : r < X.G) : wr.cell? ⟨X.pb w.heap.size r, 6, none⟩ = some (.int .u64 d) := h.mem.num hr (by omega) (by omega)
end
end Go.Proofs.Ybulkexmza
