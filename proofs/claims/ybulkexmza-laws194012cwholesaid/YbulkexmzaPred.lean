/-
  COUNTING, and THE WALK over sink.predecessors (9).
-/
import Derived.Test.YbulkexmzaRows
import Derived.WalkKit
import Derived.WalkSpells
import Derived.WalkLawsBesides
import Derived.Deep.LoopGhost
import Derived.Deep.OwnRows
import Derived.Deep.Light
import Derived.CellFam
import Derived.BigGuard
namespace Go.Proofs.Ybulkexmza
open Go.RowKit

theorem Yba.info3 : (Yba.prog.info? 3).map (fun i => (i.zero, i.size, i.bytes)) = some (some (.int .i64 0), 1, 8) := by kernel_rfl
theorem Yba.info52 : (Yba.prog.info? 52).map (fun i => (i.zero, i.size, i.bytes)) = some (some (.pointer none), 1, 8) := by kernel_rfl

/-- How many of the first k edges of block i lead to block j. -/
def cntI (T : Nat → Nat → Nat) (i : Nat) : Nat → Nat → Nat
  | 0, _ => 0
  | k + 1, j => cntI T i k j + if T i k = j then 1 else 0
/-- .. and of all edges of the first i blocks. -/
def cntA (T : Nat → Nat → Nat) (L : Nat → Nat) : Nat → Nat → Nat
  | 0, _ => 0
  | i + 1, j => cntA T L i j + cntI T i (L i) j
def sumL (L : Nat → Nat) : Nat → Nat
  | 0 => 0
  | i + 1 => sumL L i + L i
theorem cntI_le (T : Nat → Nat → Nat) (i k j : Nat) : cntI T i k j ≤ k := by
  induction k with
  | zero => exact Nat.le_refl _
  | succ k ih => simp only [cntI]; split <;> omega
theorem cntA_le (T : Nat → Nat → Nat) (L : Nat → Nat) (i j : Nat) : cntA T L i j ≤ sumL L i := by
  induction i with
  | zero => exact Nat.le_refl _
  | succ i ih => simp only [cntA, sumL]; have := cntI_le T i (L i) j; omega
theorem sumL_mono (L : Nat → Nat) {i n : Nat} (h : i ≤ n) : sumL L i ≤ sumL L n := by
  induction n with
  | zero => obtain rfl : i = 0 := by omega
            exact Nat.le_refl _
  | succ n ih =>
    by_cases e : i = n + 1
    · subst e; exact Nat.le_refl _
    · simp only [sumL]; have := ih (by omega); omega
theorem sumL_at (L : Nat → Nat) {i n : Nat} (h : i < n) : sumL L i + L i ≤ sumL L n := by
  have := sumL_mono L (i := i + 1) (n := n) h
  simpa only [sumL] using this

def pr0 (j : Nat) : Nat := if j = 0 then 1 else 0
def val (T : Nat → Nat → Nat) (L : Nat → Nat) (i k j : Nat) : Nat := pr0 j + cntA T L i j + cntI T i k j
theorem val_step (T : Nat → Nat → Nat) (L : Nat → Nat) (i k j : Nat) : val T L i (k + 1) j = val T L i k j + if T i k = j then 1 else 0 := by simp only [val, cntI]; omega
theorem val_next (T : Nat → Nat → Nat) (L : Nat → Nat) (i j : Nat) : val T L i (L i) j = val T L (i + 1) 0 j := by simp only [val, cntA, cntI]; omega
theorem val_le (T : Nat → Nat → Nat) (L : Nat → Nat) {i n k : Nat} (hi : i < n) (hk : k ≤ L i) (j : Nat) : val T L i k j ≤ 1 + sumL L n := by
  have h1 := cntA_le T L i j
  have h2 := cntI_le T i k j
  have h3 := sumL_at L hi
  have h4 : pr0 j ≤ 1 := by simp only [pr0]; split <;> omega
  simp only [val]; omega

/-- The counts in a new block. -/
structure Pst (w wr : World) (n : Nat) (f : Nat → Nat) : Prop where
  since : w.Since w.heap.size wr
  size : wr.heap.size = w.heap.size + 1
  row : wr.rowIs w.heap.size 3 n (fun j => .int .i64 (f j))

theorem Pst.congr {w wr : World} {n : Nat} {f g : Nat → Nat} (h : Pst w wr n f) (e : ∀ j, j < n → f j = g j) : Pst w wr n g :=
  ⟨h.since, h.size, h.row.congr (fun j hj => by rw [e j hj])⟩
theorem Pst.set {w wr : World} {n : Nat} {f : Nat → Nat} (h : Pst w wr n f) (j0 v : Nat) : Pst w (wr.setCell ⟨w.heap.size, j0, none⟩ (.int .i64 v)) n (fun j => if j = j0 then v else f j) :=
  ⟨h.since.setCell (Nat.le_refl _) _, by simp [h.size], (h.row.set j0 _).congr (fun j _ => by show (if j = j0 then Value.int .i64 (v : Int) else .int .i64 (f j)) = .int .i64 ((if j = j0 then v else f j : Nat) : Int); split <;> rfl)⟩
theorem Pst.start (w : World) (n : Nat) : Pst w (w.alloc (.cells (madeCells #[.int .i64 0] n) 3)) n (fun _ => 0) :=
  ⟨(World.Since.refl _ _).alloc (Nat.le_refl _) _, by simp, (World.rowIs_made w _ n 3)⟩

set_option maxHeartbeats 1000000 in
set_option maxRecDepth 100000 in
theorem pred_any (w : World) (fb tb n : Nat) (PB : Nat → Nat) (SA : Nat → Option Addr) (SB : Nat → Nat) (L C : Nat → Nat) (T : Nat → Nat → Nat) (hn : 0 < n) (hn' : n ≤ 1024) (hsum : sumL L n ≤ 16384)
    (hf : w.cell? ⟨fb, 11, none⟩ = some (.slice (some ⟨tb, 0, none⟩) n n)) (ht : ∀ j, j < n → w.cell? ⟨tb, j, none⟩ = some (.pointer (some ⟨PB j, 0, none⟩)))
    (hs : ∀ j, j < n → w.cell? ⟨PB j, 4, none⟩ = some (.slice (SA j) (L j) (C j)))
    (hc : ∀ j, j < n → ∀ k, k < L j → SA j = some ⟨SB j, 0, none⟩ ∧ w.cell? ⟨SB j, k, none⟩ = some (.pointer (some ⟨PB (T j k), 0, none⟩)))
    (hT : ∀ j, j < n → ∀ k, k < L j → T j k < n) (hid : ∀ j, j < n → w.cell? ⟨PB j, 0, none⟩ = some (.int .i64 j)) :
    Calls Yba.prog 9 #[.pointer (some ⟨fb, 0, none⟩)] w fun e w' => e = .returned (.slice (some ⟨w.heap.size, 0, none⟩) n n) ∧ Pst w w' n (val T L n 0) := by
  have hmk := run_make_row' (P := Yba.prog) 65 3 (.int .i64 0) 8 Yba.underlying65 Yba.info3 rfl .i64 .i64 n (by omega) (by omega)
  have hn0 : (0 : Int) < n := by omega
  have hfb : fb < w.heap.size := World.block_lt_of_cell? _ _ hf
  have hP0 := (Pst.start w n).set 0 1
  have s1 : (w.alloc (.cells (madeCells #[.int .i64 0] n) 3)).cell? ⟨w.heap.size, 0, none⟩ = some (.int .i64 0) := (Pst.start w n).row.cell hn
  have s2 : (w.alloc (.cells (madeCells #[.int .i64 0] n) 3)).frozen? ⟨w.heap.size, 0, none⟩ = false := (Pst.start w n).row.frozen 0
  go_enter Yba.func9, Yba.ntmps9
  go_wp2
  clear hmk s1 s2
  have hP1 := hP0.congr (g := val T L 0 0) (fun j _ => by simp [val, pr0, cntA, cntI])
  rw [World.setCell_alloc_new] at hP1
  clear hP0
  go_loopg [21] n (fun g i wr => ∃ r : Nat, r ≤ n ∧ g = n - r ∧ i = .int .i64 r ∧ Pst w wr n (val T L r 0))
  case atStart => exact ⟨0, Nat.zero_le _, rfl, rfl, hP1⟩
  case round =>
    obtain ⟨r, hr, rfl, rfl, hP⟩ := hrel
    clear hP1
    by_cases hrn : r < n
    · have hrz : (r : Int) < (n : Int) := by omega
      have q1 : wr.cell? ⟨tb, r, none⟩ = some (.pointer (some ⟨PB r, 0, none⟩)) := by
        rw [hP.since.cell (World.block_lt_of_cell? _ _ (ht r hrn))]; exact ht r hrn
      have q2 : wr.cell? ⟨PB r, 4, none⟩ = some (.slice (SA r) (L r) (C r)) := by
        rw [hP.since.cell (World.block_lt_of_cell? _ _ (hs r hrn))]; exact hs r hrn
      have hL : L r ≤ 16384 := by have := sumL_at L hrn; omega
      obtain ⟨sa, hsa⟩ : ∃ sa, SA r = sa := ⟨_, rfl⟩
      rw [hsa] at q2
      have hc' := hc r hrn
      rw [hsa] at hc'
      clear hsa hc
      go_wp2
      have hPk : Pst w wr n (val T L r 0) := hP
      clear q1 q2 hP
      go_loopg [30] (L r) (fun g i wi => ∃ k : Nat, k ≤ L r ∧ g = L r - k ∧ i = .int .i64 k ∧ Pst w wi n (val T L r k))
      case atStart => exact ⟨0, Nat.zero_le _, rfl, rfl, hPk⟩
      case round =>
        obtain ⟨k, hk, rfl, rfl, hI⟩ := hrel
        clear hPk
        by_cases hkL : k < L r
        · have hkz : (k : Int) < (L r : Int) := by omega
          obtain ⟨e1, e2⟩ := hc' k hkL
          have hTn := hT r hrn k hkL
          have e3 := hid _ hTn
          rw [← hI.since.cell (World.block_lt_of_cell? _ _ e2)] at e2
          rw [← hI.since.cell (World.block_lt_of_cell? _ _ e3)] at e3
          have e4 := hI.row.cell hTn
          have e5 := hI.row.frozen (T r k)
          have hv := val_le T L hrn hk (T r k)
          have hnext := hI.set (T r k) (val T L r k (T r k) + 1)
          have hnext2 := hnext.congr (g := val T L r (k + 1)) (fun j _ => by
            rw [val_step]
            by_cases e : j = T r k
            · subst e; simp
            · have e' : ¬ T r k = j := fun h => e h.symm
              simp [e, e'])
          have hN : Aside (Pst w _ n (val T L r (k + 1))) := hnext2
          clear hnext hnext2
          generalize hx : T r k = x at *
          generalize hy : val T L r k x = y at *
          have hxz : (x : Int) < (n : Int) := by omega
          subst e1
          clear hx hy hc' hT hs ht hid hI
          go_wp2
          go_roundg (L r - (k + 1))
          case measure => go_light; omega
          case rel => exact ⟨k + 1, by omega, rfl, by simp, by simpa using hN.out⟩
        · have hkz : ¬ (k : Int) < (L r : Int) := by omega
          obtain rfl : k = L r := by omega
          go_wp2
          go_roundg (n - (r + 1))
          case measure => go_light; omega
          case rel => exact ⟨r + 1, by omega, rfl, by simp, hI.congr (fun j _ => val_next T L r j)⟩
    · have hrz : ¬ (r : Int) < (n : Int) := by omega
      obtain rfl : r = n := by omega
      go_wp2
      go_ret
      exact ⟨rfl, hP⟩
end Go.Proofs.Ybulkexmza
