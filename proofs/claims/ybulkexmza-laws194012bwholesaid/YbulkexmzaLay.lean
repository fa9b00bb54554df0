/-
  WHAT link.LawS194012BWhole WORKS ON: the input as plain functions, what is reckoned of it, where its memory lies.
-/
import Derived.Test.YbulkexmzaUp
import Derived.Deep.OwnRows
import Derived.Deep.Light
import Derived.Maps.OwnSet
namespace Go.Proofs.Ybulkexmza
open Go.RowKit Go.Maps

/-- The input: G parts; of each its name, kind, first size, number of symbols; of each symbol its five fields. -/
structure Inp where
  G : Nat
  N : Nat → ByteArray
  K : Nat → Nat
  I : Nat → Nat
  L : Nat → Nat
  SN : Nat → Nat → ByteArray
  SK : Nat → Nat → Nat
  SD : Nat → Nat → Nat
  SZ : Nat → Nat → Nat
  SA : Nat → Nat → Nat

def sumN (L : Nat → Nat) : Nat → Nat
  | 0 => 0
  | i + 1 => sumN L i + L i
theorem sumN_mono (L : Nat → Nat) {i n : Nat} (h : i ≤ n) : sumN L i ≤ sumN L n := by
  induction n with
  | zero => obtain rfl : i = 0 := by omega
            exact Nat.le_refl _
  | succ n ih =>
    by_cases e : i = n + 1
    · subst e; exact Nat.le_refl _
    · simp only [sumN]; have := ih (by omega); omega
theorem sumN_at (L : Nat → Nat) {i n : Nat} (h : i < n) : sumN L i + L i ≤ sumN L n := by
  have := sumN_mono L (i := i + 1) (n := n) h
  simpa only [sumN] using this

namespace Inp

/-- The greatest alignment of the first j symbols. -/
def pal (X : Inp) (r : Nat) : Nat → Nat
  | 0 => 1
  | j + 1 => if X.pal r j < eff (X.SA r j) then eff (X.SA r j) else X.pal r j
/-- What symbol j takes. -/
def tk (X : Inp) (r j : Nat) : Nat := if X.SK r j % 4 = 2 then X.SZ r j else X.SD r j
/-- The part's size ahead of symbol j. -/
def sz (X : Inp) (r : Nat) : Nat → Nat
  | 0 => X.I r
  | j + 1 => up (X.sz r j) (eff (X.SA r j)) + X.tk r j
def pg (r c : Nat) : Nat := if 0 < r then up c 4096 else c
/-- The offset reached ahead of part r. -/
def cur (X : Inp) : Nat → Nat
  | 0 => 64 + 56 * (X.G + 1)
  | r + 1 => if X.K r % 4 = 2 then pg r (X.cur r) else up (pg r (X.cur r)) (X.pal r (X.L r)) + X.sz r (X.L r)
def off (X : Inp) (r : Nat) : Nat := up (pg r (X.cur r)) (X.pal r (X.L r))
def key (X : Inp) (r j : Nat) : Lit := .string (X.SN r j).data.toList
/-- A symbol's address. -/
def ad (X : Inp) (r j : Nat) : Nat := 4194304 + X.off r + up (X.sz r j) (eff (X.SA r j))
/-- The table when the first j symbols of part r are in. -/
def tb (X : Inp) (D : DataW Unit) (r : Nat) : Nat → DataW Unit
  | 0 => D
  | j + 1 => (X.tb D r j).put (X.key r j) (.lit (.int .u64 ((X.ad r j : Nat) : Int)))
def tab (X : Inp) : Nat → DataW Unit
  | 0 => .map []
  | r + 1 => X.tb (X.tab r) r (X.L r)

/-- What is asked of the input's numbers. -/
structure Ok (X : Inp) : Prop where
  g : X.G ≤ 4096
  s : sumN X.L X.G ≤ 65536
  k : ∀ r, r < X.G → X.K r < 256
  i : ∀ r, r < X.G → X.I r < 65536
  sk : ∀ r, r < X.G → ∀ j, j < X.L r → X.SK r j < 256
  sd : ∀ r, r < X.G → ∀ j, j < X.L r → X.SD r j < 256
  sz : ∀ r, r < X.G → ∀ j, j < X.L r → X.SZ r j < 65536
  sa : ∀ r, r < X.G → ∀ j, j < X.L r → X.SA r j < 256
  sn : ∀ r, r < X.G → ∀ j, j < X.L r → (X.SN r j).size ≤ maxLen

variable {X : Inp}
theorem pal_pow (r j : Nat) : ∃ k, k ≤ 14 ∧ X.pal r j = 2 ^ k := by
  induction j with
  | zero => exact ⟨0, by omega, rfl⟩
  | succ j ih =>
    simp only [pal]
    split
    · exact eff_pow _
    · exact ih
theorem pal_le (r j : Nat) : 1 ≤ X.pal r j ∧ X.pal r j ≤ 16384 := by
  obtain ⟨k, hk, e⟩ := X.pal_pow r j
  rw [e]; exact pow_le hk
theorem Ok.l (h : X.Ok) {r : Nat} (hr : r < X.G) : X.L r ≤ 65536 := by
  have := sumN_at X.L hr
  have := h.s
  omega
theorem Ok.tk_le (h : X.Ok) {r : Nat} (hr : r < X.G) {j : Nat} (hj : j < X.L r) : X.tk r j ≤ 65535 := by
  have := h.sz r hr j hj
  have := h.sd r hr j hj
  unfold tk
  split <;> omega
theorem Ok.sz_le (h : X.Ok) {r : Nat} (hr : r < X.G) {j : Nat} (hj : j ≤ X.L r) : X.sz r j ≤ 65535 + j * 81919 := by
  induction j with
  | zero => simp only [Inp.sz]; have := h.i r hr; omega
  | succ j ih =>
    simp only [Inp.sz]
    have := ih (by omega)
    have h1 := eff_le (X.SA r j)
    have := up_le (n := X.sz r j) h1.1
    have := h.tk_le hr (j := j) (by omega)
    omega
theorem pg_le (r c : Nat) : c ≤ pg r c ∧ pg r c ≤ c + 4095 := by
  unfold pg
  split
  · have := up_le (n := c) (a := 4096) (by omega); omega
  · omega
theorem Ok.cur_le (h : X.Ok) {r : Nat} (hr : r ≤ X.G) : X.cur r ≤ 64 + 56 * (X.G + 1) + r * 86015 + sumN X.L r * 81919 := by
  induction r with
  | zero => simp [Inp.cur]
  | succ r ih =>
    have hc := ih (by omega)
    have hp := pg_le r (X.cur r)
    have h1 := X.pal_le r (X.L r)
    have h2 := up_le (n := pg r (X.cur r)) h1.1
    have h3 := h.sz_le (r := r) (by omega) (Nat.le_refl _)
    simp only [Inp.cur, sumN]
    rw [Nat.add_mul]
    split <;> omega
/-- All numbers met are small. -/
theorem Ok.small (h : X.Ok) {r : Nat} (hr : r < X.G) : X.cur r ≤ 10000000000 ∧ pg r (X.cur r) ≤ 10000004095 ∧ X.off r ≤ 10000020480 := by
  have hc := h.cur_le (r := r) (by omega)
  have hp := pg_le r (X.cur r)
  have h1 := X.pal_le r (X.L r)
  have h2 := up_le (n := pg r (X.cur r)) h1.1
  have hs := sumN_mono X.L (i := r) (n := X.G) (by omega)
  have := h.s
  have := h.g
  unfold Inp.off
  omega
theorem Ok.szs (h : X.Ok) {r : Nat} (hr : r < X.G) {j : Nat} (hj : j ≤ X.L r) : X.sz r j ≤ 10000000000 := by
  have := h.sz_le hr hj
  have := h.l hr
  omega

/-! ### Where it lies -/
/-- The block at which symbol j's make begins. -/
def q (X : Inp) (b r : Nat) : Nat → Nat
  | 0 => b
  | j + 1 => X.q b r j + (if X.SK r j % 4 = 2 then 1 else 2)
/-- .. part r's. -/
def h (X : Inp) (S : Nat) : Nat → Nat
  | 0 => S + 2
  | r + 1 => X.q (X.h S r + 1) r (X.L r) + 2
def qb (X : Inp) (S r j : Nat) : Nat := X.q (X.h S r + 1) r j
def sb (X : Inp) (S r j : Nat) : Nat := X.qb S r j + (if X.SK r j % 4 = 2 then 0 else 1)
def bb (X : Inp) (S r : Nat) : Nat := X.qb S r (X.L r)
def pb (X : Inp) (S r : Nat) : Nat := X.qb S r (X.L r) + 1
theorem q_le (b r j : Nat) : b + j ≤ X.q b r j := by
  induction j with
  | zero => simp [q]
  | succ j ih => simp only [q]; split <;> omega
theorem h_succ (S r : Nat) : X.h S (r + 1) = X.pb S r + 1 := rfl
theorem pb_lt (S r : Nat) : X.h S r + 1 < X.pb S r := by
  have := X.q_le (X.h S r + 1) r (X.L r)
  unfold pb qb; omega
theorem h_mono (S : Nat) {r t : Nat} (hr : r ≤ t) : X.h S r ≤ X.h S t := by
  induction t with
  | zero => obtain rfl : r = 0 := by omega
            exact Nat.le_refl _
  | succ t ih =>
    by_cases e : r = t + 1
    · subst e; exact Nat.le_refl _
    · have := ih (by omega)
      have := X.pb_lt S t
      rw [h_succ]; omega
theorem S_lt (S r : Nat) : S + 2 ≤ X.h S r := by have := X.h_mono S (Nat.zero_le r); simpa [h] using this
theorem pb_inj {S r t : Nat} (e : X.pb S r = X.pb S t) : r = t := by
  rcases Nat.lt_trichotomy r t with hlt | h | hlt
  · have h1 := X.h_mono S (r := r + 1) (t := t) hlt
    have h2 := X.pb_lt S t
    rw [h_succ] at h1; omega
  · exact h
  · have h1 := X.h_mono S (r := t + 1) (t := r) hlt
    have h2 := X.pb_lt S r
    rw [h_succ] at h1; omega

/-- A symbol's six cells. -/
def symf (X : Inp) (S r j i : Nat) : Value :=
  if i = 0 then .string (X.SN r j) else if i = 1 then .int .u8 ((X.SK r j % 4 : Nat) : Int) else if i = 2 then (if X.SK r j % 4 = 2 then .slice none 0 0 else .slice (some ⟨X.qb S r j, 0, none⟩) (X.SD r j) (X.SD r j))
  else if i = 3 then .int .i64 (X.SZ r j) else if i = 4 then .int .i64 (al (X.SA r j)) else .slice none 0 0
/-- A part's seven cells; v: the four numbers' (at 3 to 6). -/
def prt (X : Inp) (S r : Nat) (v : Nat → Nat) (i : Nat) : Value :=
  if i = 0 then .string (X.N r) else if i = 1 then .int .u8 ((X.K r % 4 : Nat) : Int) else if i = 2 then .slice (some ⟨X.h S r, 0, none⟩) (X.L r) (X.L r) else .int .u64 (v i)
/-- The four numbers: first, last. -/
def v0 (X : Inp) (r i : Nat) : Nat := if i = 3 then 7 else if i = 4 then 9 else if i = 5 then X.I r else 3
def v1 (X : Inp) (r i : Nat) : Nat := if i = 3 then X.off r else if i = 4 then 4194304 + X.off r else if i = 5 then X.sz r (X.L r) else X.pal r (X.L r)
def vr (X : Inp) (r : Nat) (f : Nat → Nat) (j : Nat) : Nat → Nat := if j < r then X.v1 j else if j = r then f else X.v0 j
end Inp

theorem rowIs_kept {w w' : World} {b : Nat} {t : TypeId} {n : Nat} {f : Nat → Value} {row : Option Nat} (h : w.rowIs b t n f) (hg : w.grownBy w' row) (hne : some b ≠ row) : w'.rowIs b t n f :=
  h.of_block (hg.block b h.lt hne)
theorem rowIs_ne {w : World} {b b' : Nat} {t t' : TypeId} {n n' : Nat} {f f' : Nat → Value} (h : w.rowIs b t n f) (h' : w.rowIs b' t' n' f') (ht : t ≠ t') : b ≠ b' := by
  rintro rfl
  obtain ⟨c, e, _⟩ := h
  obtain ⟨c', e', _⟩ := h'
  rw [e] at e'
  simp only [Option.some.injEq, Obj.cells.injEq] at e'
  exact ht e'.2.1
/-- No row of cells lies at block d. -/
def NoRow (w : World) (d : Nat) : Prop := ∀ b t n f, w.rowIs b t n f → b ≠ d
theorem ownsMap_noRow {w : World} {P : Program} {k : TypeId} {R : Value → Option (DataW Unit × List MemPlace)} {d n : Nat} {D : DataW Unit} (h : w.ownsMap P k R d n D) : NoRow w d := by
  rintro b t m f ⟨c, e, _⟩ rfl
  obtain ⟨es, clock, e', _⟩ := h
  rw [e] at e'
  cases e'

/-- What the law has laid in memory: the first g parts, their numbers V. -/
structure Mem (w wr : World) (X : Inp) (g : Nat) (V : Nat → Nat → Nat) : Prop where
  since : w.Since w.heap.size wr
  parts : wr.rowIs w.heap.size 39 X.G (fun j => if j < g then .pointer (some ⟨X.pb w.heap.size j, 0, none⟩) else .pointer none)
  built : wr.rowIs (w.heap.size + 1) 29 X.G (fun j => if j < g then .slice (some ⟨X.bb w.heap.size j, 0, none⟩) (X.L j) (X.L j) else .slice none 0 0)
  part : ∀ j, j < g → wr.rowIs (X.pb w.heap.size j) 42 7 (X.prt w.heap.size j (V j))
  syms : ∀ j, j < g → wr.rowIs (X.h w.heap.size j) 34 (X.L j) (fun c => .pointer (some ⟨X.sb w.heap.size j c, 0, none⟩))
  bsyms : ∀ j, j < g → wr.rowIs (X.bb w.heap.size j) 34 (X.L j) (fun c => .pointer (some ⟨X.sb w.heap.size j c, 0, none⟩))
  sym : ∀ j, j < g → ∀ c, c < X.L j → wr.rowIs (X.sb w.heap.size j c) 38 6 (X.symf w.heap.size j c)

section
variable {w wr wr' : World} {X : Inp} {g : Nat} {V V' : Nat → Nat → Nat}

theorem Mem.congr (h : Mem w wr X g V) (e : ∀ j, j < g → ∀ i, 3 ≤ i → i < 7 → V j i = V' j i) : Mem w wr X g V' :=
  ⟨h.since, h.parts, h.built, fun j hj => (h.part j hj).congr (fun i hi => by
    unfold Inp.prt
    by_cases h3 : i < 3
    · have : i = 0 ∨ i = 1 ∨ i = 2 := by omega
      rcases this with rfl | rfl | rfl <;> rfl
    · rw [e j hj i (by omega) hi]), h.syms, h.bsyms, h.sym⟩

/-- Another block than the rows' turns. -/
theorem Mem.kept {row : Option Nat} (h : Mem w wr X g V) (hg : wr.grownBy wr' row) (hno : ∀ d, row = some d → NoRow wr d ∧ w.heap.size ≤ d) : Mem w wr' X g V := by
  have hk : ∀ {b t n f}, wr.rowIs b t n f → wr'.rowIs b t n f := fun {b t n f} hb => rowIs_kept hb hg (fun e => (hno b e.symm).1 b t n f hb rfl)
  have hB : w.heap.size ≤ wr.heap.size := h.since.size
  exact ⟨h.since.grown hg hB (fun k hk' => (hno k hk').2), hk h.parts, hk h.built, fun j hj => hk (h.part j hj), fun j hj => hk (h.syms j hj), fun j hj => hk (h.bsyms j hj), fun j hj c hc => hk (h.sym j hj c hc)⟩

theorem Mem.alloc (h : Mem w wr X g V) (o : Obj) : Mem w (wr.alloc o) X g V := h.kept (World.grownBy_alloc wr o none) (fun d hd => by cases hd)
theorem Mem.drew (h : Mem w wr X g V) : Mem w wr.drew X g V :=
  ⟨h.since.drew, h.parts, h.built, h.part, h.syms, h.bsyms, h.sym⟩
theorem Mem.drewN (h : Mem w wr X g V) (n : Nat) : Mem w (wr.drewN n) X g V := by
  induction n with
  | zero => exact h
  | succ n ih => exact ih.drew

/-- One of the current part's numbers is set. -/
theorem Mem.setP {r : Nat} {f : Nat → Nat} (h : Mem w wr X g (X.vr r f)) (hr : r < g) {c n : Nat} (h3 : 3 ≤ c) :
    Mem w (wr.setCell ⟨X.pb w.heap.size r, c, none⟩ (.int .u64 (n : Nat))) X g (X.vr r (fun i => if i = c then n else f i)) := by
  have hp := h.part r hr
  have hS := X.S_lt w.heap.size r
  have hpb := X.pb_lt w.heap.size r
  have ho : ∀ {b t m f'}, wr.rowIs b t m f' → t ≠ 42 → (wr.setCell ⟨X.pb w.heap.size r, c, none⟩ (.int .u64 (n : Nat))).rowIs b t m f' := fun hb ht => hb.setOther (rowIs_ne hb hp ht) _
  refine ⟨h.since.setCell (by show w.heap.size ≤ X.pb w.heap.size r; omega) _, ho h.parts (by decide), ho h.built (by decide), fun j hj => ?_, fun j hj => ho (h.syms j hj) (by decide), fun j hj => ho (h.bsyms j hj) (by decide), fun j hj c' hc => ho (h.sym j hj c' hc) (by decide)⟩
  by_cases e : j = r
  · subst e
    refine ((h.part j hj).set c _).congr (fun i hi => ?_)
    by_cases hic : i = c
    · subst hic
      simp only [if_true, Inp.prt, Inp.vr]
      rw [if_neg (by omega), if_neg (by omega), if_neg (by omega)]
      simp
    · simp only [hic, if_false, Inp.prt, Inp.vr, Nat.lt_irrefl, if_true]
  · refine ((h.part j hj).setOther (fun e' => e (X.pb_inj e')) _).congr (fun i _ => ?_)
    simp only [Inp.vr, e, if_false]
theorem Mem.num {r : Nat} {f : Nat → Nat} (h : Mem w wr X g (X.vr r f)) (hr : r < g) {c : Nat} (h3 : 3 ≤ c) (h7 : c < 7) : wr.cell? ⟨X.pb w.heap.size r, c, none⟩ = some (.int .u64 (f c)) := by
  rw [(h.part r hr).cell h7]
  simp only [Inp.prt, Inp.vr, Nat.lt_irrefl, if_false, if_true]
  rw [if_neg (by omega), if_neg (by omega), if_neg (by omega)]
theorem Mem.frz (h : Mem w wr X g V) {r : Nat} (hr : r < g) (c : Nat) : wr.frozen? ⟨X.pb w.heap.size r, c, none⟩ = false := (h.part r hr).frozen c
end
end Go.Proofs.Ybulkexmza
