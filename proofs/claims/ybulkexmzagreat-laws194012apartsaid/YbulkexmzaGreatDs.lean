/-
  THE SEARCH of ir.newDominance: its state; the walk over its closure reach (57).
-/
import Derived.Test.YbulkexmzaGreatSl
import Derived.Deep.RegionLaw
namespace Go.Proofs.YbulkexmzaGreat
open Go.RowKit

/-- A block of one cell that holds v. -/
def bx (t : TypeId) (v : Value) : Lb := ⟨t, 1, fun _ u => u = v⟩
theorem St.box {w0 w : World} {K : Nat} {E : Nat → Nat} {B : Nat → Lb} (h : St w0 w K E B) {k : Nat} (hk : k < K) {t : TypeId} {v : Value} (hb : B k = bx t v) : w.cell? ⟨E k, 0, none⟩ = some v := by
  obtain ⟨u, h1, h2⟩ := h.read k hk (i := 0) (by rw [hb]; exact Nat.one_pos)
  rw [hb] at h2
  rw [h1]; exact congrArg some h2
/-- An array of ints, cell i holding f i. -/
def arr (n : Nat) (f : Nat → Int) : Lb := ⟨3, n, fun i u => u = .int .i64 (f i)⟩
theorem St.arr {w0 w : World} {K : Nat} {E : Nat → Nat} {B : Nat → Lb} (h : St w0 w K E B) {k : Nat} (hk : k < K) {n : Nat} {f : Nat → Int} (hb : B k = arr n f) {i : Nat} (hi : i < n) : w.cell? ⟨E k, i, none⟩ = some (.int .i64 (f i)) := by
  obtain ⟨u, h1, h2⟩ := h.read k hk (i := i) (by rw [hb]; exact hi)
  rw [hb] at h2
  rw [h1]; exact congrArg some h2

/-- The vertices' numbers: the root first. -/
def qv (n : Nat) (i : Nat) (u : Value) : Prop := ∃ z : Nat, u = .int .i64 z ∧ (i = 0 → z = n) ∧ (0 < i → z < n)
/-- Each was reached from one of a lower number. -/
def qp (i : Nat) (u : Value) : Prop := ∃ z : Int, u = .int .i64 z ∧ (i = 0 → z = -1) ∧ (0 < i → 0 ≤ z ∧ z < i)
def ql (xs : List Nat) (i : Nat) (u : Value) : Prop := ∃ z : Nat, xs[i]? = some z ∧ u = .int .i64 z
/-- The stack's entries, two cells each. -/
def qs (xs : List (Nat × Nat)) (i : Nat) (u : Value) : Prop := ∃ z : Nat × Nat, xs[i / 2]? = some z ∧ u = .int .i64 ((if i % 2 = 0 then z.1 else z.2 : Nat) : Int)

def cntV (f : Nat → Int) : Nat → Nat
  | 0 => 0
  | n + 1 => cntV f n + if 0 ≤ f n then 1 else 0
theorem cntV_le (f : Nat → Int) (n : Nat) : cntV f n ≤ n := by
  induction n with
  | zero => exact Nat.le_refl _
  | succ n ih => simp only [cntV]; split <;> omega
theorem cntV_upd (f : Nat → Int) {b n : Nat} (hb : b < n) (h : f b < 0) {z : Int} (hz : 0 ≤ z) : cntV (upd f b z) n = cntV f n + 1 := by
  have low : ∀ j, j ≤ b → cntV (upd f b z) j = cntV f j := fun j hj => by
    induction j with
    | zero => rfl
    | succ j ih => simp only [cntV]; rw [ih (by omega), upd_other _ _ (by omega)]
  induction n with
  | zero => omega
  | succ n ih =>
    simp only [cntV]
    by_cases e : b = n
    · subst e
      rw [low b (Nat.le_refl _), upd_same, if_pos hz, if_neg (by omega)]
    · rw [ih (by omega), upd_other _ _ (by omega)]
      omega

/-- The search's state: registers 0 to 4 are the boxes of num, vertex, parent, post, stack; 5 to 9 their rows. -/
structure Ds (w0 w : World) (E : Nat → Nat) (B : Nat → Lb) (n m : Nat) (f : Nat → Int) (stk : List (Nat × Nat)) (pst : List Nat) : Prop where
  st : St w0 w 14 E B
  b0 : B 0 = bx 46 (.slice (some ⟨E 5, 0, none⟩) n n)
  b5 : B 5 = arr n f
  b1 : ∃ v c, B 1 = bx 46 v ∧ Sl E B 6 3 1 m c (qv n) v
  b2 : ∃ v c, B 2 = bx 46 v ∧ Sl E B 7 3 1 m c qp v
  b3 : ∃ v c, B 3 = bx 46 v ∧ Sl E B 8 3 1 pst.length c (ql pst) v
  b4 : ∃ v c, B 4 = bx 156 v ∧ Sl E B 9 158 2 stk.length c (qs stk) v
  fr : ∀ b, b < n → -1 ≤ f b ∧ f b < m
  cnt : m = 1 + cntV f n
  sv : ∀ z ∈ stk, z.1 < n ∧ 0 ≤ f z.1
  pv : ∀ z ∈ pst, z < n ∧ 0 ≤ f z
  nd : (stk.map (·.1) ++ pst).Nodup

theorem upd_comm {α : Type} (f : Nat → α) {j k : Nat} (h : j ≠ k) (x y : α) : upd (upd f j x) k y = upd (upd f k y) j x := by
  funext i
  simp only [upd]
  by_cases h1 : i = j
  · by_cases h2 : i = k
    · omega
    · simp [h1, h]
  · simp [h1]

theorem news1B (w : World) (v : Value) (t : TypeId) (o : Obj) : ∀ j u, [v][j]? = some u → ((w.alloc (.cells #[v] t)).alloc o).cell? ((⟨w.heap.size, 0, none⟩ : Addr).add j) = some u :=
  World.news_of_block (w := (w.alloc (.cells #[v] t)).alloc o) (cs := #[v]) (t := t) (fr := (0, 0)) (by rw [Go.Deep.blk_alloc_lt _ _ _ (by simp)]; exact Go.Deep.blk_alloc_new _ _)

theorem tmp1 (w : World) (o o' : Obj) : ((w.alloc o).alloc o').drew.heap[w.heap.size]? = some o := by
  show ((w.alloc o).alloc o').heap[w.heap.size]? = some o
  rw [Go.Deep.blk_alloc_lt _ _ _ (by simp)]
  exact Go.Deep.blk_alloc_new _ _
theorem tmp2 (w : World) (o o' : Obj) : ((w.alloc o).alloc o').drew.heap[w.heap.size + 1]? = some o' := by
  show ((w.alloc o).alloc o').heap[w.heap.size + 1]? = some o'
  have := Go.Deep.blk_alloc_new (w.alloc o) o'
  simpa using this

/-- Ends as the text does, in no other way. -/
def Norm (R : Act → World → Prop) : Exit → Act → World → Prop
  | .normal, a, w => R a w
  | _, _, _ => False
theorem wp_normal {P : Program} {c : Code} {Q : Exit → Act → World → Prop} {a : Act} {w : World} (h : c.wp P (Norm (Q .normal)) a w) : c.wp P Q a w :=
  wp_mono h (fun e a w hq => by cases e <;> first | exact hq | exact hq.elim)

theorem wp_seq_hid {P : Program} {Q : Exit → Act → World → Prop} {a : Act} {w : World} {x y : Code} (h : ∀ K : Act → World → Prop, Hid (∀ a w, y.wp P Q a w → K a w) → x.wp P (Exit.then K Q) a w) : (Code.seq x y).wp P Q a w := wp_seq_k h

def firstId : Code → Nat
  | .region id _ _ => id
  | .seq a _ => firstId a
  | .block _ c => firstId c
  | .scope c => firstId c
  | _ => 100000
/-- The code from the statement on whose first region is k. -/
def codeAt (k : Nat) : Code → Option Code
  | .seq a b => if Nat.beq (firstId a) k = true then some (.seq a b) else match codeAt k a with
    | some c => some c
    | none => codeAt k b
  | .block _ c => codeAt k c
  | .scope c => codeAt k c
  | .loop c => codeAt k c
  | _ => none
/-- One region. -/
def regAt (k : Nat) : Code → Option Code
  | .region id o b => if Nat.beq id k = true then some (.region id o b) else none
  | .seq a b => match regAt k a with
    | some c => some c
    | none => regAt k b
  | .cond _ a b => match regAt k a with
    | some c => some c
    | none => regAt k b
  | .block _ c => regAt k c
  | .scope c => regAt k c
  | .loop c => regAt k c
  | _ => none

/-- Behind both appends of one statement: vertex and parent have each grown. -/
def Two (w0 : World) (E : Nat → Nat) (B : Nat → Lb) (n m g1 c1 g2 c2 : Nat) (w' : World) : Prop :=
  St w0 w' 14 (upd (upd E 6 g1) 7 g2) (upd (upd B 6 (gl 3 1 (m + 1) c1 (qv n))) 7 (gl 3 1 (m + 1) c2 qp)) ∧ m + 1 ≤ c1 ∧ c1 ≤ maxLen ∧ m + 1 ≤ c2 ∧ c2 ≤ maxLen

theorem Sl.caps {E : Nat → Nat} {B : Nat → Lb} {k : Nat} {e : TypeId} {size len cap : Nat} {q : Nat → Value → Prop} {a : Option Addr} {c : Nat} (h : Sl E B k e size len cap q (.slice a len c)) (hl : 0 < len) : len ≤ cap ∧ cap ≤ maxLen := by
  rcases h with ⟨_, rfl⟩ | ⟨_, _, h1, h2⟩
  · omega
  · exact ⟨h1, h2⟩

set_option maxHeartbeats 4000000 in
set_option maxRecDepth 100000 in
/-- The statement that grows vertex and parent, in whatever order the draw gives. -/
theorem reach_r1 {c3 c5 c6 c7 c8 c9 c10 c11 c12 c13 c14 c15 c16 c17 c18 c19 c20 c21 c22 c23 c24 c25 : Value} {w0 w1 : World} {E : Nat → Nat} {B1 : Nat → Lb} {n m b fr cv cp vc pc : Nat} {va pa : Option Addr} {Q : Exit → Act → World → Prop} (HS : Hid (St w0 w1 14 E B1))
    (hb1 : B1 1 = bx 46 (.slice va m vc)) (hb2 : B1 2 = bx 46 (.slice pa m pc)) (HV : Hid (Sl E B1 6 3 1 m cv (qv n) (.slice va m vc))) (HP : Hid (Sl E B1 7 3 1 m cp qp (.slice pa m pc))) (hb : b < n) (hfr : fr < m) (hm : m ≤ 100001)
    (hQ : ∀ (c13 c14 c15 c16 c17 c18 c19 c20 : Value) (g1 d1 g2 d2 : Nat) (wq : World), Two w0 E B1 n m g1 d1 g2 d2 wq → Q .normal ⟨#[.int .i64 (b : Nat), .int .i64 (fr : Nat), .pointer (some ⟨E 1, 0, none⟩), c3, .pointer (some ⟨E 2, 0, none⟩), c5, c6, c7, c8, c9, c10, c11, c12, c13, c14, c15, c16, c17, c18, c19, c20, c21, c22, c23, c24, c25], []⟩
      ((wq.setCell ⟨E 1, 0, none⟩ (.slice (some ⟨g1, 0, none⟩) (m + 1) d1)).setCell ⟨E 2, 0, none⟩ (.slice (some ⟨g2, 0, none⟩) (m + 1) d2))) :
    Code.wp Ybaz.prog ((Ybaz.f57.body.bind (regAt 1)).getD .skip) Q ⟨#[.int .i64 (b : Nat), .int .i64 (fr : Nat), .pointer (some ⟨E 1, 0, none⟩), c3, .pointer (some ⟨E 2, 0, none⟩), c5, c6, c7, c8, c9, c10, c11, c12, c13, c14, c15, c16, c17, c18, c19, c20, c21, c22, c23, c24, c25], []⟩ w1 := by
  conv => arg 2; whnf
  have HQ : Hid (∀ (c13 c14 c15 c16 c17 c18 c19 c20 : Value) (g1 d1 g2 d2 : Nat) (wq : World), Two w0 E B1 n m g1 d1 g2 d2 wq → Q .normal ⟨#[.int .i64 (b : Nat), .int .i64 (fr : Nat), .pointer (some ⟨E 1, 0, none⟩), c3, .pointer (some ⟨E 2, 0, none⟩), c5, c6, c7, c8, c9, c10, c11, c12, c13, c14, c15, c16, c17, c18, c19, c20, c21, c22, c23, c24, c25], []⟩
      ((wq.setCell ⟨E 1, 0, none⟩ (.slice (some ⟨g1, 0, none⟩) (m + 1) d1)).setCell ⟨E 2, 0, none⟩ (.slice (some ⟨g2, 0, none⟩) (m + 1) d2))) := hQ
  clear hQ
  have hzv : ∀ j u, [Value.int .i64 (b : Nat)][j]? = some u → qv n (m * 1 + j) u := fun j u hj => by
    match j, hj with
    | 0, hj => simp at hj; subst hj; exact ⟨b, rfl, fun h => by omega, fun _ => hb⟩
  have hzp : ∀ j u, [Value.int .i64 (fr : Nat)][j]? = some u → qp (m * 1 + j) u := fun j u hj => by
    match j, hj with
    | 0, hj => simp at hj; subst hj; exact ⟨fr, rfl, fun h => by omega, fun _ => by omega⟩
  have k1 : w1.cell? ⟨E 1, 0, none⟩ = some (.slice va m vc) := HS.out.box (k := 1) (by omega) hb1
  have k2 : w1.cell? ⟨E 2, 0, none⟩ = some (.slice pa m pc) := HS.out.box (k := 2) (by omega) hb2
  have e6' : E 6 < w1.heap.size := (HS.out.row 6 (by omega)).lt
  have e7' : E 7 < w1.heap.size := (HS.out.row 7 (by omega)).lt
  refine wp_normal ?_
  have m1 : E 1 < w1.heap.size := (HS.out.row 1 (by omega)).lt
  have m2 : E 2 < w1.heap.size := (HS.out.row 2 (by omega)).lt
  have n12 : ¬ E 1 = E 2 := fun e => by have := HS.out.inj 1 2 (by omega) (by omega) e; omega
  have n21 : ¬ E 2 = E 1 := fun e => n12 e.symm
  go_region_law ((first
    | (refine step_app ety3 (by rfl) (.tmp 13) (.tmp 15) (by rfl) HV.out (by first | exact (HS.out.alloc _).drew | exact ((HS.out.alloc _).alloc _).drew) (by omega) (by rfl) _ [.int .i64 (b : Nat)] (by rfl) rfl (by first | exact news1 _ _ _ | exact World.news_of_block (tmp1 w1 _ _) | exact World.news_of_block (tmp2 w1 _ _)) (by simp [Value.oneCell']) (by omega) (qv n) (fun _ _ _ h => h) hzv ?_
       intro g1 d1 wv hav
       have q2 : wv.cell? ⟨E 2, 0, none⟩ = some (.slice pa m pc) := hav.1.box (k := 2) (by omega) hb2
       have l2 : E 2 < wv.heap.size := (hav.1.row 2 (by omega)).lt
       first
       | (have tC : wv.heap[w1.heap.size + 1]? = some (.cells #[.int .i64 (fr : Nat)] 3 (0, 0)) := hav.temp (tmp2 w1 _ _) (by show E 6 < _; omega))
       | (have tC : wv.heap[w1.heap.size]? = some (.cells #[.int .i64 (fr : Nat)] 3 (0, 0)) := hav.temp (tmp1 w1 _ _) (by show E 6 < _; omega))
       | skip)
    | (refine step_app ety3 (by rfl) (.tmp 17) (.tmp 19) (by rfl) HP.out (by first | exact (HS.out.alloc _).drew | exact ((HS.out.alloc _).alloc _).drew) (by omega) (by rfl) _ [.int .i64 (fr : Nat)] (by rfl) rfl (by first | exact news1 _ _ _ | exact World.news_of_block (tmp1 w1 _ _) | exact World.news_of_block (tmp2 w1 _ _)) (by simp [Value.oneCell']) (by omega) qp (fun _ _ _ h => h) hzp ?_
       intro g2 d2 wp hap
       have q1 : wp.cell? ⟨E 1, 0, none⟩ = some (.slice va m vc) := hap.1.box (k := 1) (by omega) hb1
       have l1 : E 1 < wp.heap.size := (hap.1.row 1 (by omega)).lt
       first
       | (have tA : wp.heap[w1.heap.size + 1]? = some (.cells #[.int .i64 (b : Nat)] 3 (0, 0)) := hap.temp (tmp2 w1 _ _) (by show E 7 < _; omega))
       | (have tA : wp.heap[w1.heap.size]? = some (.cells #[.int .i64 (b : Nat)] 3 (0, 0)) := hap.temp (tmp1 w1 _ _) (by show E 7 < _; omega))
       | skip)
    | (refine step_app ety3 (by rfl) (.tmp 17) (.tmp 19) (by rfl) (k := 7) (show Sl (upd E 6 g1) (upd B1 6 (gl 3 1 (m + 1) d1 (qv n))) 7 3 1 m cp qp (.slice pa m pc) from HP.out) (by first | exact hav.1 | exact hav.1.alloc _) (by omega) (by rfl) _ [.int .i64 (fr : Nat)] (by rfl) rfl (by first | exact news1 _ _ _ | exact World.news_of_block tC) (by simp [Value.oneCell']) (by omega) qp (fun _ _ _ h => h) hzp ?_
       intro g2 d2 wp hap
       have HF : Hid (Two w0 E B1 n m g1 d1 g2 d2 wp) := ⟨hap.1, (hav.2.1.caps (by omega)).1, (hav.2.1.caps (by omega)).2, (hap.2.1.caps (by omega)).1, (hap.2.1.caps (by omega)).2⟩
       have q1 : wp.cell? ⟨E 1, 0, none⟩ = some (.slice va m vc) := hap.1.box (k := 1) (by omega) hb1
       have q1f : wp.frozen? ⟨E 1, 0, none⟩ = false := hap.1.frz 1 (by omega) 0
       have q2' : wp.cell? ⟨E 2, 0, none⟩ = some (.slice pa m pc) := hap.1.box (k := 2) (by omega) hb2
       have q2f : wp.frozen? ⟨E 2, 0, none⟩ = false := hap.1.frz 2 (by omega) 0)
    | (refine step_app ety3 (by rfl) (.tmp 13) (.tmp 15) (by rfl) (k := 6) (show Sl (upd E 7 g2) (upd B1 7 (gl 3 1 (m + 1) d2 qp)) 6 3 1 m cv (qv n) (.slice va m vc) from HV.out) (by first | exact hap.1 | exact hap.1.alloc _) (by omega) (by rfl) _ [.int .i64 (b : Nat)] (by rfl) rfl (by first | exact news1 _ _ _ | exact World.news_of_block tA) (by simp [Value.oneCell']) (by omega) (qv n) (fun _ _ _ h => h) hzv ?_
       intro g1 d1 wv hav
       have HF : Hid (Two w0 E B1 n m g1 d1 g2 d2 wv) := ⟨by rw [upd_comm E (show (6 : Nat) ≠ 7 by decide), upd_comm _ (show (6 : Nat) ≠ 7 by decide)]; exact hav.1, (hav.2.1.caps (by omega)).1, (hav.2.1.caps (by omega)).2, (hap.2.1.caps (by omega)).1, (hap.2.1.caps (by omega)).2⟩
       have q1' : wv.cell? ⟨E 1, 0, none⟩ = some (.slice va m vc) := hav.1.box (k := 1) (by omega) hb1
       have q1f : wv.frozen? ⟨E 1, 0, none⟩ = false := hav.1.frz 1 (by omega) 0
       have q2 : wv.cell? ⟨E 2, 0, none⟩ = some (.slice pa m pc) := hav.1.box (k := 2) (by omega) hb2
       have q2f : wv.frozen? ⟨E 2, 0, none⟩ = false := hav.1.frz 2 (by omega) 0)))
  all_goals (show Q .normal _ _)
  all_goals (apply HQ.out; exact HF.out)

end Go.Proofs.YbulkexmzaGreat
