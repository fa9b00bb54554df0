/-
  A FUNCTION IN MEMORY, by labels: (1, i, 0, 0) its struct; (10, i, j, 0) block j; (11, i, j, 0) its instructions' row; (12, i, j, 0) its successors' row; (20, i, j, t) its instruction t.
-/
import Derived.Test.YbulkexmzaGreatPc
namespace Go.Proofs.YbulkexmzaGreat
open Go.RowKit

/-- What a function is laid out by. -/
structure Fd where
  n : Nat
  kd : Nat → Nat
  tg : Nat → Option Nat
  ki : Nat → Nat
  ps : Nat → Nat
structure Fdk (d : Fd) : Prop where
  n1 : 1 ≤ d.n
  nm : d.n ≤ 100000
  kd : ∀ j, d.kd j ≠ 1 ∧ d.kd j < 256
  kt : ∀ j, d.kd j = 0 ↔ d.tg j ≠ none
  tl : ∀ j t, d.tg j = some t → t < d.n
  ki : ∀ j, d.ki j ≤ 3

def suv (P : Lab → Nat) (i : Nat) (d : Fd) (e : Nat) : Value := match d.tg e with
  | none => .slice none 0 0
  | some _ => .slice (some ⟨P (12, i, e, 0), 0, none⟩) 1 1
theorem suv_form (P : Lab → Nat) (i : Nat) (d : Fd) (e : Nat) : ∃ a l c, suv P i d e = .slice a l c := by
  unfold suv
  cases d.tg e with
  | none => exact ⟨_, _, _, rfl⟩
  | some t => exact ⟨_, _, _, rfl⟩
def xp (P : Lab → Nat) (i : Nat) (bt : Nat × Nat) : Value := .pointer (some ⟨P (20, i, bt.1, bt.2), 0, none⟩)
def qi (P : Lab → Nat) (i : Nat) (l : List (Nat × Nat)) (t : Nat) (u : Value) : Prop := ∃ bt, l[t]? = some bt ∧ u = xp P i bt
/-- Block j holds what the blocks from j to e held. -/
structure BlkOk (P E : Lab → Nat) (B : Lab → Option Lb) (i : Nat) (d : Fd) (j id e : Nat) : Prop where
  mem : ∃ D sv cap, B (10, i, j, 0) = some (vals 45 6 D) ∧ D 0 = .int .i64 (id : Nat) ∧ D 1 = sv ∧ D 2 = .int .u8 (d.kd e : Nat) ∧ D 3 = .pointer none ∧ D 4 = suv P i d e ∧ D 5 = .int .i64 (d.ps e : Nat) ∧ Slg E B (11, i, j, 0) 50 (cat d.ki j e).length cap (qi P i (cat d.ki j e)) sv
section
variable {P P' E E' : Lab → Nat} {B B' : Lab → Option Lb} {i j id e : Nat} {d : Fd} {w0 w : World}
theorem BlkOk.congr (h : BlkOk P E B i d j id e) (he : E' (11, i, j, 0) = E (11, i, j, 0)) (hb : B' (10, i, j, 0) = B (10, i, j, 0)) (hb' : B' (11, i, j, 0) = B (11, i, j, 0)) : BlkOk P E' B' i d j id e := by
  obtain ⟨D, sv, cap, h1, h2, h3, h4, h5, h6, h7, h8⟩ := h.mem
  exact ⟨D, sv, cap, hb.trans h1, h2, h3, h4, h5, h6, h7, h8.congr he hb'⟩
theorem BlkOk.ptr (h : BlkOk P E B i d j id e) (h12 : P' (12, i, e, 0) = P (12, i, e, 0)) (h20 : ∀ a b, P' (20, i, a, b) = P (20, i, a, b)) : BlkOk P' E B i d j id e := by
  obtain ⟨D, sv, cap, h1, h2, h3, h4, h5, h6, h7, h8⟩ := h.mem
  have e1 : suv P' i d e = suv P i d e := by unfold suv; rw [h12]
  have e2 : qi P' i (cat d.ki j e) = qi P i (cat d.ki j e) := by
    funext t u
    unfold qi xp
    simp only [h20]
  exact ⟨D, sv, cap, h1, h2, h3, h4, h5, by rw [e1]; exact h6, h7, by rw [e2]; exact h8⟩
theorem qi_app (l m : List (Nat × Nat)) (P : Lab → Nat) (i : Nat) : (∀ t u, t < l.length → qi P i l t u → qi P i (l ++ m) t u) ∧ ∀ t u, (m.map (xp P i))[t]? = some u → qi P i (l ++ m) (l.length + t) u := by
  refine ⟨fun t u ht ⟨bt, h1, h2⟩ => ⟨bt, by rw [List.getElem?_append_left ht]; exact h1, h2⟩, fun t u h => ?_⟩
  rw [List.getElem?_map] at h
  cases hm : m[t]? with
  | none => rw [hm] at h; cases h
  | some bt =>
    rw [hm] at h
    refine ⟨bt, ?_, by cases h; rfl⟩
    rw [List.getElem?_append_right (by omega), show l.length + t - l.length = t by omega]
    exact hm
/-- The function's struct: what it holds beyond its blocks. -/
structure FnS (B : Lab → Option Lb) (i : Nat) (pk : ByteArray) (rv v : Value) : Prop where
  mem : ∃ nf D, 11 < nf ∧ B (1, i, 0, 0) = some (vals 59 nf D) ∧ D 1 = .string pk ∧ D 5 = rv ∧ D 8 = .slice none 0 0 ∧ D 9 = .slice none 0 0 ∧ D 10 = .slice none 0 0 ∧ D 11 = v
/-- What nothing turns: the successors' rows, the instructions. -/
structure Fx (E : Lab → Nat) (B : Lab → Option Lb) (i : Nat) (d : Fd) : Prop where
  su : ∀ e t, e < d.n → d.tg e = some t → B (12, i, e, 0) = some (vals 40 1 (fun _ => .pointer (some ⟨E (10, i, t, 0), 0, none⟩)))
  xi : ∀ j t, j < d.n → t < d.ki j → ∃ nx D, 6 < nx ∧ B (20, i, j, t) = some (vals 55 nx D) ∧ D 1 = .pointer none ∧ D 2 = .slice none 0 0 ∧ D 3 = .slice none 0 0 ∧ D 6 = .pointer none
theorem Fx.congr (h : Fx E B i d) (he : ∀ t, E' (10, i, t, 0) = E (10, i, t, 0)) (hb : ∀ e, B' (12, i, e, 0) = B (12, i, e, 0)) (hb' : ∀ a b, B' (20, i, a, b) = B (20, i, a, b)) : Fx E' B' i d :=
  ⟨fun e t h1 h2 => by rw [hb, he]; exact h.su e t h1 h2, fun j t h1 h2 => by rw [hb']; exact h.xi j t h1 h2⟩
/-- The blocks in use: m of them, the k-th is block ld k. -/
theorem cfg_of {pk : ByteArray} {rv : Value} {m cap : Nat} {ld ee ix : Nat → Nat} {sc : Nat → Option Nat} {bl : Lab} {lb : Lb} (hS : Sg w0 w E B) (hx : Fx E B i d) (hf : FnS B i pk rv (.slice (some ⟨E bl, 0, none⟩) m cap)) (hl : B bl = some lb) (hln : m ≤ lb.n) (hlp : ∀ k u, k < m → lb.p k u → u = .pointer (some ⟨E (10, i, ld k, 0), 0, none⟩))
    (hb : ∀ k, k < m → BlkOk E E B i d (ld k) k (ee k)) (hen : ∀ k, k < m → ee k < d.n) (hsc : ∀ k t, k < m → d.tg (ee k) = some t → sc k = some (ix t) ∧ ix t < m ∧ ld (ix t) = t) (hsn : ∀ k, k < m → d.tg (ee k) = none → sc k = none) :
    Cfg w (E (1, i, 0, 0)) m (fun k => E (10, i, ld k, 0)) sc := by
  refine ⟨?_, fun k hk => ?_, fun k hk => ?_⟩
  · obtain ⟨nf, D, h1, h2, _, _, _, _, _, h3⟩ := hf.mem
    refine ⟨E bl, 0, cap, ?_, fun k hk => ?_⟩
    · rw [hS.val h2 h1, h3]
    · obtain ⟨u, h4, h5⟩ := hS.read hl (i := k) (by omega)
      rw [Nat.zero_add, h4, hlp k u hk h5]
  · obtain ⟨D, sv, c, h1, h2, _⟩ := (hb k hk).mem
    rw [hS.val h1 (by omega), h2]
  · obtain ⟨D, sv, c, h1, h2, _, _, _, h6, _⟩ := (hb k hk).mem
    have h7 : w.cell? ⟨E (10, i, ld k, 0), 4, none⟩ = some (suv E i d (ee k)) := by rw [hS.val h1 (by omega), h6]
    cases ht : d.tg (ee k) with
    | none =>
      refine .inl ⟨hsn k hk ht, ?_⟩
      rw [h7]; unfold suv; rw [ht]
    | some t =>
      obtain ⟨h8, h9, h10⟩ := hsc k t hk ht
      refine .inr ⟨ix t, E (12, i, ee k, 0), 0, 1, h8, h9, ?_, ?_⟩
      · rw [h7]; unfold suv; rw [ht]
      · rw [hS.val (hx.su _ t (hen k hk) ht) (by omega), h10]
theorem cfi_of {pk : ByteArray} {rv v : Value} {m : Nat} {ld ee : Nat → Nat} (hd : Fdk d) (hS : Sg w0 w E B) (hx : Fx E B i d) (hf : FnS B i pk rv v) (hb : ∀ k, k < m → BlkOk E E B i d (ld k) k (ee k)) (hen : ∀ k, k < m → ee k < d.n) (hle : ∀ k, k < m → ld k ≤ ee k) :
    ∃ mi ins, Cfi w (E (1, i, 0, 0)) m (fun k => E (10, i, ld k, 0)) mi ins (fun k => d.kd (ee k)) := by
  refine ⟨fun k => (cat d.ki (ld k) (ee k)).length, fun k t => E (20, i, ((cat d.ki (ld k) (ee k)).getD t (0, 0)).1, ((cat d.ki (ld k) (ee k)).getD t (0, 0)).2), ?_⟩
  have hget : ∀ k t, t < (cat d.ki (ld k) (ee k)).length → (cat d.ki (ld k) (ee k))[t]? = some ((cat d.ki (ld k) (ee k)).getD t (0, 0)) := fun k t ht => by
    rw [List.getD_eq_getElem?_getD, List.getElem?_eq_getElem ht]; rfl
  have hins : ∀ k t, k < m → t < (cat d.ki (ld k) (ee k)).length → ∃ nx D, 6 < nx ∧ B (20, i, ((cat d.ki (ld k) (ee k)).getD t (0, 0)).1, ((cat d.ki (ld k) (ee k)).getD t (0, 0)).2) = some (vals 55 nx D) ∧ D 1 = .pointer none ∧ D 2 = .slice none 0 0 ∧ D 3 = .slice none 0 0 ∧ D 6 = .pointer none := fun k t hk ht => by
    have hm := List.mem_of_getElem? (hget k t ht)
    have := cat_mem d.ki (b := ((cat d.ki (ld k) (ee k)).getD t (0, 0)).1) (t := ((cat d.ki (ld k) (ee k)).getD t (0, 0)).2) hm
    have h2 := hen k hk
    exact hx.xi _ _ (by omega) this.2.2
  refine ⟨?_, fun k hk => ?_, fun k hk => ?_, fun k t hk ht => ?_, fun k t hk ht => ?_, fun k t hk ht => ?_, fun k t hk ht => ?_, fun k hk => ?_⟩
  · obtain ⟨nf, D, h1, h2, _, _, h3, _⟩ := hf.mem
    rw [hS.val h2 (by omega), h3]
  · obtain ⟨D, sv, c, h1, h2, h3, _, _, _, _, h8⟩ := (hb k hk).mem
    obtain ⟨a, vc, rfl, _, ha⟩ := h8.form
    refine ⟨a, vc, by rw [hS.val h1 (by omega), h3], fun t ht => ⟨E (11, i, ld k, 0), 0, ha (by omega), ?_⟩⟩
    obtain ⟨u, h9, ⟨bt, h10, h11⟩, _⟩ := h8.cell hS ht
    rw [hget k t ht] at h10
    rw [Nat.zero_add, h9, h11]
    cases h10
    rfl
  · obtain ⟨D, sv, c, h1, _, _, h4, _⟩ := (hb k hk).mem
    exact ⟨by rw [hS.val h1 (by omega), h4], (hd.kd _).1⟩
  · obtain ⟨nx, D, h1, h2, h3, _⟩ := hins k t hk ht
    rw [hS.val h2 (by omega), h3]
  · obtain ⟨nx, D, h1, h2, _, h3, _⟩ := hins k t hk ht
    rw [hS.val h2 (by omega), h3]
  · obtain ⟨nx, D, h1, h2, _, _, h3, _⟩ := hins k t hk ht
    rw [hS.val h2 (by omega), h3]
  · obtain ⟨nx, D, h1, h2, _, _, _, h3⟩ := hins k t hk ht
    rw [hS.val h2 (by omega), h3]
  · have h1 := cat_len d.ki hd.ki (hle k hk)
    have h2 := hen k hk
    have h3 := hd.nm
    omega
end
end Go.Proofs.YbulkexmzaGreat
