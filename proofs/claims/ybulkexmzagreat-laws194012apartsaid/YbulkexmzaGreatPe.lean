/-
  sink.join (8): one round of its loop (regions 5 to 11 and 4).
-/
import Derived.Test.YbulkexmzaGreatPd
import Derived.LaidEqlPtr
namespace Go.Proofs.YbulkexmzaGreat
open Go.RowKit
attribute [local go_sem] fup_at
theorem info45x : ∃ j, Ybaz.prog.info? 45 = some j ∧ j.size ≠ 0 := by
  have h : (match Ybaz.prog.info? 45 with
    | some i => Nat.beq i.size 0
    | none => true) = false := by kernel_rfl
  cases hi : Ybaz.prog.info? 45 with
  | none => rw [hi] at h; cases h
  | some i =>
    rw [hi] at h
    refine ⟨i, rfl, fun e => ?_⟩
    have h' : Nat.beq i.size 0 = false := h
    rw [e] at h'; cases h'
theorem eqp40 (w : World) (a : Addr) : (binOp .eql 40 (.pointer (some a)) (.pointer (some a))).run Ybaz.prog w = .ok (.bool true) w := by
  obtain ⟨j, hj, _⟩ := info45x
  exact run_eql_ptr_same w a Ybaz.underlying40 hj
theorem nep40 (w : World) {a b : Nat} {la lb : Lb} (ra : RowOk w a la) (rb : RowOk w b lb) (hne : a ≠ b) : (binOp .eql 40 (.pointer (some ⟨a, 0, none⟩)) (.pointer (some ⟨b, 0, none⟩))).run Ybaz.prog w = .ok (.bool false) w := by
  obtain ⟨j, hj, hs⟩ := info45x
  obtain ⟨ca, ha, _⟩ := ra
  obtain ⟨cb, hb, _⟩ := rb
  exact run_eql_ptr_other w Ybaz.underlying40 hj hs (fun e => hne (by cases e; rfl)) ha hb
theorem Fr.appg {N : Nat} {F : (Nat → Value) → Act} (hF : Fr N F) {w0 w : World} {E : Lab → Nat} {B : Lab → Option Lb} {k : Lab} {t e : TypeId} {bytes : Nat} {len cap : Nat} {q : Nat → Value → Prop} {v : Value} {ops : Array Oper} {rest : List Oper} {o : Oper} {f : Nat → Value} {Q : Exit → Act → World → Prop} (ht : Ety t e 1 bytes) (hgd : o.guard = none) (s x d : Nat) (hd : o.dst = some d) (ho : o.op = .call { callee := .builtin .append, args := #[.tmp s, .tmp x], argTypes := #[t, t] }) (hs : s < N) (hx : x < N)
    (h : Slg E B k e len cap q v) (hS : Sg w0 w E B) (es : f s = v) (xa : Option Addr) (m c : Nat) (ns : List Value) (ex : f x = .slice xa m c) (hnl : ns.length = m) (hnew : 0 < m → ∃ ad, xa = some ad ∧ ∀ j u, ns[j]? = some u → w.cell? (ad.add j) = some u) (h1 : ∀ u ∈ ns, u.oneCell' = true) (hlen : len + m ≤ 100000000000)
    (q' : Nat → Value → Prop) (hq : ∀ i u, i < len → q i u → q' i u) (hz : ∀ j u, ns[j]? = some u → q' (len + j) u)
    (hK : ∀ v' w', Apg w0 E B k e (len + m) q' v' w' → wpList Ybaz.prog ops Q rest (F (fup f d v')) w') : wpList Ybaz.prog ops Q (o :: rest) (F f) w :=
  h.wpl ht hgd (.tmp s) (.tmp x) ho hS ((hF.eval f hs).trans es) xa m c ns ((hF.eval f hx).trans ex) hnl hnew h1 hlen q' hq hz (fun v' w' ha => by
    have := hF.up f d v'
    rw [hd, show (F f).put (some d) v' = F (fup f d v') from this]
    exact hK v' w' ha)
theorem add0 (g j : Nat) : (⟨g, 0, none⟩ : Addr).add j = ⟨g, j, none⟩ := by
  unfold Addr.add
  split
  · rename_i h; rw [h]
  · rw [Nat.zero_add]
/-- How far block j goes when the first y blocks are joined: an absorbed block keeps what it held. -/
def ex (ab : Nat → Bool) (y j : Nat) : Nat := if ab j = true then j else en ab y j
structure Jn (w0 w : World) (E0 : Lab → Nat) (B0 : Lab → Option Lb) (E : Lab → Nat) (B : Lab → Option Lb) (i : Nat) (d : Fd) (pk : ByteArray) (rv v11 : Value) (id ee : Nat → Nat) : Prop where
  sg : Sg w0 w E B
  he : ∀ l : Lab, ¬ (l.2.1 = i ∧ (l.1 = 7 ∨ l.1 = 8 ∨ l.1 = 11)) → E l = E0 l
  hb : ∀ l : Lab, ¬ (l.2.1 = i ∧ (l.1 = 1 ∨ l.1 = 7 ∨ l.1 = 8 ∨ l.1 = 10 ∨ l.1 = 11)) → B l = B0 l
  blk : ∀ j, j < d.n → BlkOk E0 E B i d j (id j) (ee j)
  fn : FnS B i pk rv v11
def bsr (E0 : Lab → Nat) (i n : Nat) : Lb := vals 40 n (fun j => .pointer (some ⟨E0 (10, i, j, 0), 0, none⟩))
def qd (E0 : Lab → Nat) (i : Nat) (g : Nat → Nat) (k : Nat) (u : Value) : Prop := u = .pointer (some ⟨E0 (10, i, g k, 0), 0, none⟩)
section
variable {w0 w : World} {E0 E E' : Lab → Nat} {B0 B B' : Lab → Option Lb} {i : Nat} {d : Fd} {pk : ByteArray} {rv v11 : Value} {id ee : Nat → Nat}
theorem Jn.c11 (hJ : Jn w0 w E0 B0 E B i d pk rv v11 id ee) : w.cell? ⟨E0 (1, i, 0, 0), 11, none⟩ = some v11 := by
  obtain ⟨nf, D, h1, h2, _, _, _, _, _, h3⟩ := hJ.fn.mem
  have := hJ.sg.val h2 h1
  rw [h3, hJ.he (1, i, 0, 0) (by simp)] at this
  exact this
theorem Jn.cbs (hJ : Jn w0 w E0 B0 E B i d pk rv v11 id ee) (hbs : B0 (2, i, 0, 0) = some (bsr E0 i d.n)) {j : Nat} (hj : j < d.n) : w.cell? ⟨E0 (2, i, 0, 0), j, none⟩ = some (.pointer (some ⟨E0 (10, i, j, 0), 0, none⟩)) := by
  have h2 := (hJ.hb (2, i, 0, 0) (by simp)).trans hbs
  have := hJ.sg.val h2 (i := j) hj
  rw [hJ.he (2, i, 0, 0) (by simp)] at this
  exact this
theorem Jn.row (hJ : Jn w0 w E0 B0 E B i d pk rv v11 id ee) {j : Nat} (hj : j < d.n) : ∃ lb, RowOk w (E0 (10, i, j, 0)) lb ∧ B (10, i, j, 0) = some lb := by
  obtain ⟨D, sv, c, h1, _⟩ := (hJ.blk j hj).mem
  refine ⟨_, ?_, h1⟩
  have := hJ.sg.row _ _ h1
  rwa [hJ.he (10, i, j, 0) (by simp)] at this
theorem Jn.far (hJ : Jn w0 w E0 B0 E B i d pk rv v11 id ee) {a b : Nat} (ha : a < d.n) (hb : b < d.n) (hne : a ≠ b) : E0 (10, i, a, 0) ≠ E0 (10, i, b, 0) := by
  obtain ⟨la, _, h1⟩ := hJ.row ha
  obtain ⟨lb, _, h2⟩ := hJ.row hb
  have := hJ.sg.far h1 h2 (fun e => hne (by injection e with _ e; injection e with _ e; injection e))
  rwa [hJ.he (10, i, a, 0) (by simp), hJ.he (10, i, b, 0) (by simp)] at this
/-- A step that leaves the blocks and the function alone. -/
theorem Jn.later (hJ : Jn w0 w E0 B0 E B i d pk rv v11 id ee) {w' : World} (hS : Sg w0 w' E' B') (he : ∀ l : Lab, ¬ (l.2.1 = i ∧ (l.1 = 7 ∨ l.1 = 8)) → E' l = E l) (hb : ∀ l : Lab, ¬ (l.2.1 = i ∧ (l.1 = 7 ∨ l.1 = 8)) → B' l = B l) : Jn w0 w' E0 B0 E' B' i d pk rv v11 id ee := by
  refine ⟨hS, fun l hl => ?_, fun l hl => ?_, fun j hj => ?_, ?_⟩
  · rw [he l (fun ⟨h1, h2⟩ => hl ⟨h1, by rcases h2 with h | h <;> simp [h]⟩)]; exact hJ.he l hl
  · rw [hb l (fun ⟨h1, h2⟩ => hl ⟨h1, by rcases h2 with h | h <;> simp [h]⟩)]; exact hJ.hb l hl
  · exact (hJ.blk j hj).congr (he _ (by simp)) (hb _ (by simp)) (hb _ (by simp))
  · obtain ⟨nf, D, h1, h2, h3⟩ := hJ.fn.mem
    exact ⟨nf, D, h1, by rw [hb _ (by simp)]; exact h2, h3⟩
end
set_option maxHeartbeats 4000000 in
set_option maxRecDepth 100000 in
theorem j5 {F : (Nat → Value) → Act} (hF : Fr 136 F) {w0 w : World} {E0 E : Lab → Nat} {B0 B : Lab → Option Lb} {i x cap : Nat} {d : Fd} {pk : ByteArray} {rv v3 : Value} {id : Nat → Nat} {AB : Nat → Bool} {f : Nat → Value} {Q : Exit → Act → World → Prop} (hAB : AB = abs true d.tg d.n) (hd : Fdk d)
    (hJ : Jn w0 w E0 B0 E B i d pk rv (.slice (some ⟨E0 (2, i, 0, 0), 0, none⟩) d.n d.n) id (ex AB x)) (hX : Fx E0 B0 i d) (hbs : B0 (2, i, 0, 0) = some (bsr E0 i d.n)) (hpr : B (8, i, 0, 0) = some (arr d.n (fun k => ((pd d.tg d.n k : Nat) : Int))))
    (hx : x < d.n) (hab : AB x = false) (hsl : Slg E B (7, i, 0, 0) 40 (gm AB x) cap (qd E0 i (gd AB x)) v3)
    (h0 : f 0 = .pointer (some ⟨E0 (1, i, 0, 0), 0, none⟩)) (h2 : f 2 = .slice (some ⟨E (8, i, 0, 0), 0, none⟩) d.n d.n) (h3 : f 3 = v3) (h4 : f 4 = .int .i64 (x : Nat))
    (hQ : ∀ x' y w' E' B' v3' cap', x ≤ x' → x' < d.n → (x' + 1 < d.n → AB (x' + 1) = false) → Jn w0 w' E0 B0 E' B' i d pk rv (.slice (some ⟨E0 (2, i, 0, 0), 0, none⟩) d.n d.n) id (ex AB (x' + 1)) → B' (8, i, 0, 0) = B (8, i, 0, 0) → E' (8, i, 0, 0) = E (8, i, 0, 0) → Slg E' B' (7, i, 0, 0) 40 (gm AB (x' + 1)) cap' (qd E0 i (gd AB (x' + 1))) v3' → y 0 = f 0 → y 2 = f 2 → y 3 = v3' → y 4 = .int .i64 ((x' + 1 : Nat) : Int) → Q .normal (F y) w') :
    ((Ybaz.f8.body.bind (codeAt 5)).getD .skip).wp Ybaz.prog Q (F f) w := by
  conv => arg 2; whnf
  have hget := hF.get
  have hmk := hF.up
  have HQ : Hid (∀ x' y w' E' B' v3' cap', x ≤ x' → x' < d.n → (x' + 1 < d.n → AB (x' + 1) = false) → Jn w0 w' E0 B0 E' B' i d pk rv (.slice (some ⟨E0 (2, i, 0, 0), 0, none⟩) d.n d.n) id (ex AB (x' + 1)) → B' (8, i, 0, 0) = B (8, i, 0, 0) → E' (8, i, 0, 0) = E (8, i, 0, 0) → Slg E' B' (7, i, 0, 0) 40 (gm AB (x' + 1)) cap' (qd E0 i (gd AB (x' + 1))) v3' → y 0 = f 0 → y 2 = f 2 → y 3 = v3' → y 4 = .int .i64 ((x' + 1 : Nat) : Int) → Q .normal (F y) w') := hQ
  have HJ : Hid (Jn w0 w E0 B0 E B i d pk rv (.slice (some ⟨E0 (2, i, 0, 0), 0, none⟩) d.n d.n) id (ex AB x)) := hJ
  have HX : Hid (Fx E0 B0 i d) := hX
  have HSL : Hid (Slg E B (7, i, 0, 0) 40 (gm AB x) cap (qd E0 i (gd AB x)) v3) := hsl
  have HD : Hid (Fdk d) := hd
  have HBS : Hid (B0 (2, i, 0, 0) = some (bsr E0 i d.n)) := hbs
  have HPR : Hid (B (8, i, 0, 0) = some (arr d.n (fun k => ((pd d.tg d.n k : Nat) : Int)))) := hpr
  have hnm := hd.nm
  have k11 := hJ.c11
  have kx := hJ.cbs hbs hx
  clear hQ hJ hX hsl hd hbs hpr
  refine wp_seq_hid (fun K HK => ?_)
  refine wp_block ?_
  refine wp_seq_hid (fun K2 HK2 => ?_)
  go_wp2
  refine HK2.out _ _ ?_
  clear HK2 k11 kx
  refine wp_seq_hid (fun K2 HK2 => ?_)
  refine wp_block ?_
  have H0 : Jn w0 w E0 B0 E B i d pk rv (.slice (some ⟨E0 (2, i, 0, 0), 0, none⟩) d.n d.n) id (ex AB (x + 1)) := by
    have : ex AB (x + 1) = ex AB x := by
      funext j
      unfold ex
      split
      · rfl
      · exact en_no (fun h => by rw [hab] at h; cases h.1)
    rw [this]; exact HJ.out
  refine wp_loop_ghost_k (fun g a w => ∃ y, a = F y ∧ ∃ x' E' B', g + x' = d.n ∧ x ≤ x' ∧ x' < d.n ∧ Jn w0 w E0 B0 E' B' i d pk rv (.slice (some ⟨E0 (2, i, 0, 0), 0, none⟩) d.n d.n) id (ex AB (x' + 1)) ∧ en AB (x' + 1) x = x' ∧ gm AB (x' + 1) = gm AB x + 1 ∧ (∀ l : Lab, l.1 ≠ 11 → E' l = E l) ∧ (∀ l : Lab, l.1 ≠ 10 → l.1 ≠ 11 → B' l = B l) ∧ y 0 = f 0 ∧ y 2 = f 2 ∧ y 3 = f 3 ∧ y 4 = .int .i64 (x' : Nat) ∧ y 5 = .pointer (some ⟨E0 (10, i, x, 0), 0, none⟩)) (d.n - x)
    ⟨_, rfl, x, E, B, by omega, Nat.le_refl _, hx, H0, en_self (Nat.le_refl _), gm_no hab, fun _ _ => rfl, fun _ _ _ => rfl, by simp [fup_at], by simp [fup_at], by simp [fup_at], by simp [fup_at, h4], by simp [fup_at]⟩ ?_
  clear H0
  rintro g _ w2 ⟨y, rfl, x', E', B', hg, hxx, hx'n, hJ', hen, hgm, hE', hB', y0, y2, y3, y4, y5⟩ J K3 hJk hK3
  have HJk : Hid (∀ g a w, (∃ y, a = F y ∧ ∃ x' E' B', g + x' = d.n ∧ x ≤ x' ∧ x' < d.n ∧ Jn w0 w E0 B0 E' B' i d pk rv (.slice (some ⟨E0 (2, i, 0, 0), 0, none⟩) d.n d.n) id (ex AB (x' + 1)) ∧ en AB (x' + 1) x = x' ∧ gm AB (x' + 1) = gm AB x + 1 ∧ (∀ l : Lab, l.1 ≠ 11 → E' l = E l) ∧ (∀ l : Lab, l.1 ≠ 10 → l.1 ≠ 11 → B' l = B l) ∧ y 0 = f 0 ∧ y 2 = f 2 ∧ y 3 = f 3 ∧ y 4 = .int .i64 (x' : Nat) ∧ y 5 = .pointer (some ⟨E0 (10, i, x, 0), 0, none⟩)) → J g a w) := hJk
  have HK3 : Hid (∀ a' w', Handed J g a' w' → K3 a' w') := hK3
  have HJ' : Hid (Jn w0 w2 E0 B0 E' B' i d pk rv (.slice (some ⟨E0 (2, i, 0, 0), 0, none⟩) d.n d.n) id (ex AB (x' + 1))) := hJ'
  have HE' : Hid (∀ l : Lab, l.1 ≠ 11 → E' l = E l) := hE'
  have HB' : Hid (∀ l : Lab, l.1 ≠ 10 → l.1 ≠ 11 → B' l = B l) := hB'
  have hexx : ex AB (x' + 1) x = x' := by unfold ex; rw [hab, if_neg (by simp)]; exact hen
  obtain ⟨D, sv, bcap, hDb, hD0, hD1, hD2, hD3, hD4, hD5, hDS⟩ := (hJ'.blk x hx).mem
  rw [hexx] at hD2 hD4 hD5 hDS
  have k11 := hJ'.c11
  have he10 : E' (10, i, x, 0) = E0 (10, i, x, 0) := hJ'.he (10, i, x, 0) (by simp)
  have kk2 := hJ'.sg.val hDb (i := 2) (by omega)
  rw [hD2, he10] at kk2
  have kk4 := hJ'.sg.val hDb (i := 4) (by omega)
  rw [hD4, he10] at kk4
  have y0' := y0.trans h0
  have y2' := y2.trans h2
  have HY : Hid (y 0 = f 0 ∧ y 2 = f 2 ∧ y 3 = f 3) := ⟨y0, y2, y3⟩
  have HDS : Hid (Slg E' B' (11, i, x, 0) 50 (cat d.ki x x').length bcap (qi E0 i (cat d.ki x x')) sv) := hDS
  have HDb : Hid (B' (10, i, x, 0) = some (vals 45 6 D)) := hDb
  have HDD : Hid (D 0 = .int .i64 (id x : Nat) ∧ D 1 = sv) := ⟨hD0, hD1⟩
  clear hJk hK3 hJ' hE' hB' hDS hDb hD0 hD1 hD2 hD3 hD4 hD5 he10 y0 y2 y3 h0 h2 h4
  refine wp_seq_hid (fun K4 HK4 => ?_)
  refine wp_seq_hid (fun K5 HK5 => ?_)
  have HEXIT : Hid (∀ z : Nat → Value, z 66 = .bool false → (∀ s, s < 20 → z s = y s) → (x' + 1 < d.n → AB (x' + 1) = false) → K5 (F z) w2.drew) := by
    intro z z66 hzy hnx
    refine HK5.out _ _ ?_
    clear HK5 HK4
    refine hF.cond (by omega) z66 (fun h => by cases h) (fun _ => ?_)
    clear k11 kk2 kk4
    go_wp2
    refine HK2.out _ _ ?_
    clear HK2
    have z3 : z 3 = v3 := by rw [hzy 3 (by omega), HY.out.2.2]; exact h3
    have z4 : z 4 = .int .i64 (x' : Nat) := (hzy 4 (by omega)).trans y4
    have z5 : z 5 = .pointer (some ⟨E0 (10, i, x, 0), 0, none⟩) := (hzy 5 (by omega)).trans y5
    have HSL2 : Hid (Slg E' B' (7, i, 0, 0) 40 (gm AB x) cap (qd E0 i (gd AB x)) v3) := HSL.out.congr (HE'.out _ (by simp)) (HB'.out _ (by simp) (by simp))
    have hgdo : ∀ k u, k < gm AB x → qd E0 i (gd AB x) k u → qd E0 i (gd AB (x' + 1)) k u := fun k u hk hu => by
      have e : gd AB (x' + 1) k = gd AB x k := by
        have h1 := gd_lt hk
        have h2 := gd_not hk
        have h3 := gm_gd hk
        have h4 := gd_gm (show gd AB x k < x' + 1 by omega) h2
        rw [h3] at h4; exact h4
      unfold qd at *
      rw [e]; exact hu
    have hgdn : gd AB (x' + 1) (gm AB x) = x := gd_gm (by omega) hab
    have hgl := gm_le (ab := AB) x
    have hgn : ∀ j u, [Value.pointer (some ⟨E0 (10, i, x, 0), 0, none⟩)][j]? = some u → qd E0 i (gd AB (x' + 1)) (gm AB x + j) u := fun j u hu => by
      match j, hu with
      | 0, hu =>
        simp at hu
        subst hu
        unfold qd
        simp only [Nat.add_zero, hgdn]
    have HSD : Hid (Sg w0 w2.drew E' B') := HJ'.out.sg.drew
    have HJD : Hid (Jn w0 w2.drew E0 B0 E' B' i d pk rv (.slice (some ⟨E0 (2, i, 0, 0), 0, none⟩) d.n d.n) id (ex AB (x' + 1))) := HJ'.out.later HSD.out (fun _ _ => rfl) (fun _ _ => rfl)
    have HZY : Hid (∀ s, s < 20 → z s = y s) := hzy
    clear hzy
    show Code.wp _ _ _ _ w2.drew
    generalize w2.drew = w3 at HSD HJD ⊢
    go_wp2_with (at_builtin; refine hF.appg ety40 rfl 116 118 119 rfl rfl (by omega) (by omega) HSL2.out (HSD.out.alloc _) (by rfl) _ 1 1 [.pointer (some ⟨E0 (10, i, x, 0), 0, none⟩)] (by rfl) rfl (fun _ => ⟨_, rfl, news1 _ _ _⟩) (by simp [Value.oneCell']) (by omega) (qd E0 i (gd AB (x' + 1))) hgdo hgn (fun v' w' hap => ?_))
    refine HK.out _ _ ?_
    clear HK
    go_wp2
    obtain ⟨E2, B2, hS2, hE2, hB2, cap2, hsl2⟩ := hap
    have n7 : ∀ l : Lab, ¬ (l.2.1 = i ∧ (l.1 = 7 ∨ l.1 = 8)) → l ≠ (7, i, 0, 0) := fun l hl e => hl (by subst e; simp)
    rw [← hgm] at hsl2
    refine HQ.out x' _ w' E2 B2 v' cap2 hxx hx'n hnx (HJD.out.later hS2 (fun l hl => hE2 l (n7 l hl)) (fun l hl => hB2 l (n7 l hl))) ?_ ?_ hsl2 ?_ ?_ ?_ ?_
    · rw [hB2 _ (by simp), HB'.out _ (by simp) (by simp)]
    · rw [hE2 _ (by simp), HE'.out _ (by simp)]
    · simp only [fup_at]; repeat rw [if_neg (by omega)]
      rw [HZY.out 0 (by omega)]; exact HY.out.1
    · simp only [fup_at]; repeat rw [if_neg (by omega)]
      rw [HZY.out 2 (by omega)]; exact HY.out.2.1
    · simp [fup_at]
    · simp [fup_at]
  obtain ⟨x1, hx1⟩ : ∃ x1, x1 = x' + 1 := ⟨_, rfl⟩
  have HX1 : Hid (x1 = x' + 1) := hx1
  have hwr : IntKind.i64.wrap ((x' : Int) + 1) = (x1 : Int) := by rw [IntKind.wrap_i64] <;> omega
  have HNot : Hid (AB (x' + 1) = true → d.tg x' = some x1 ∧ pd d.tg d.n x1 = 1) := fun h => by
    rw [hAB] at h
    have := abs_iff.1 h
    rw [hx1]; exact ⟨this.2.2.1, this.2.2.2⟩
  have hno : ∀ {p : Prop}, (x1 < d.n → AB (x' + 1) = true → False) → (x' + 1 < d.n → AB (x' + 1) = false) := fun {p} h1 h2 => by
    cases h : AB (x' + 1) with
    | false => rfl
    | true => exact absurd h (fun h3 => h1 (by rw [hx1]; exact h2) h3)
  have HNo : Hid ((x1 < d.n → AB (x' + 1) = true → False) → (x' + 1 < d.n → AB (x' + 1) = false)) := hno (p := True)
  clear hx1 hno
  by_cases c1 : x1 < d.n
  · have hd1 : decide ((x1 : Int) < (d.n : Int)) = true := by simp; omega
    by_cases c2 : d.kd x' = 0
    · obtain ⟨t, ht⟩ : ∃ t, d.tg x' = some t := by
        cases h : d.tg x' with
        | none => exact absurd h (((HD.out.kt x').1 c2))
        | some t => exact ⟨t, rfl⟩
      have htn := HD.out.tl x' t ht
      have kk2' : w2.cell? ⟨E0 (10, i, x, 0), 2, none⟩ = some (.int .u8 0) := by rw [kk2, c2]; rfl
      have kk4' : w2.cell? ⟨E0 (10, i, x, 0), 4, none⟩ = some (.slice (some ⟨E0 (12, i, x', 0), 0, none⟩) 1 1) := by rw [kk4]; unfold suv; rw [ht]
      have kt : w2.cell? ⟨E0 (12, i, x', 0), 0, none⟩ = some (.pointer (some ⟨E0 (10, i, t, 0), 0, none⟩)) := by
        have h1 := (HJ'.out.hb (12, i, x', 0) (by simp)).trans (HX.out.su x' t hx'n ht)
        have := HJ'.out.sg.val h1 (i := 0) (by omega)
        rwa [HJ'.out.he (12, i, x', 0) (by simp)] at this
      have kb1 := HJ'.out.cbs HBS.out c1
      clear kk2 kk4
      by_cases c3 : t = x1
      · subst c3
        have hqe : ∀ w, (binOp .eql 40 (.pointer (some ⟨E0 (10, i, t, 0), 0, none⟩)) (.pointer (some ⟨E0 (10, i, t, 0), 0, none⟩))).run Ybaz.prog w = .ok (.bool true) w := fun w => eqp40 w _
        have kpr : w2.cell? ⟨E (8, i, 0, 0), t, none⟩ = some (.int .i64 ((pd d.tg d.n t : Nat) : Int)) := by
          have h1 := (HB'.out (8, i, 0, 0) (by simp) (by simp)).trans HPR.out
          have := HJ'.out.sg.arr h1 (i := t) htn
          rwa [HE'.out (8, i, 0, 0) (by simp)] at this
        by_cases c4 : pd d.tg d.n t = 1
        · rw [c4] at kpr
          have kpr' : w2.cell? ⟨E (8, i, 0, 0), t, none⟩ = some (.int .i64 1) := kpr
          clear kpr
          go_still (by kernel_rfl)
          refine HK5.out _ _ ?_
          clear HK5 HEXIT kpr'
          refine hF.cond (by omega) rfl (fun _ => ?_) (fun h => by simp at h)
          have HJD : Hid (Jn w0 w2.drew E0 B0 E' B' i d pk rv (.slice (some ⟨E0 (2, i, 0, 0), 0, none⟩) d.n d.n) id (ex AB (x' + 1))) := HJ'.out.later HJ'.out.sg.drew (fun _ _ => rfl) (fun _ _ => rfl)
          show Code.wp _ _ _ _ w2.drew
          have k11 : w2.drew.cell? ⟨E0 (1, i, 0, 0), 11, none⟩ = some (.slice (some ⟨E0 (2, i, 0, 0), 0, none⟩) d.n d.n) := k11
          have kb1 : w2.drew.cell? ⟨E0 (2, i, 0, 0), t, none⟩ = some (.pointer (some ⟨E0 (10, i, t, 0), 0, none⟩)) := kb1
          clear kk2' kk4' kt HJ'
          generalize w2.drew = w3 at HJD k11 kb1 ⊢
          go_wp2
          refine HK4.out _ _ ?_
          clear HK4
          refine wp_block ?_
          refine wp_seq_hid (fun K4 HK4 => ?_)
          go_wp2
          refine HK4.out _ _ ?_
          clear HK4
          refine wp_seq_hid (fun K4 HK4 => ?_)
          go_wp2
          refine HK4.out _ _ ?_
          clear HK4 k11 kb1
          have hx1 := HX1.out
          have hA1 : AB t = true := by
            rw [hAB]
            refine abs_iff.2 ⟨rfl, by omega, ?_, c4⟩
            rw [hx1, Nat.add_sub_cancel, ht, hx1]
          have hext : ex AB (x' + 1) t = t := by unfold ex; rw [if_pos hA1]
          obtain ⟨Dc, svc, ccap, hcb, hc0, hc1, hc2, hc3, hc4, hc5, hcS⟩ := (HJD.out.blk t htn).mem
          rw [hext] at hc2 hc4 hc5 hcS
          obtain ⟨va, vc, rfl, hvc, hva⟩ := HDS.out.form
          obtain ⟨xa, xc, rfl, hxc, hxa⟩ := hcS.form
          obtain ⟨a4, l4, c4', hsu⟩ := suv_form E0 i d t
          rw [hsu] at hc4
          have hne : ((10, i, x, 0) : Lab) ≠ (11, i, x, 0) := by simp
          have hcs : cat d.ki x t = cat d.ki x x' ++ cat d.ki t t := by rw [hx1]; exact cat_succ _ hxx
          have hl1 := cat_len d.ki HD.out.ki hxx
          have hl2 := cat_len d.ki HD.out.ki (Nat.le_refl t)
          have e10 : E' (10, i, x, 0) = E0 (10, i, x, 0) := HJD.out.he _ (by simp)
          have e10t : E' (10, i, t, 0) = E0 (10, i, t, 0) := HJD.out.he _ (by simp)
          obtain ⟨hqo, hqn⟩ := qi_app (cat d.ki x x') (cat d.ki t t) E0 i
          rw [← hcs] at hqo hqn
          have hnew : 0 < (cat d.ki t t).length → ∃ ad, xa = some ad ∧ ∀ j u, ((cat d.ki t t).map (xp E0 i))[j]? = some u → w3.cell? (ad.add j) = some u := fun hm => by
            refine ⟨_, hxa hm, fun j u hu => ?_⟩
            rw [List.getElem?_map] at hu
            obtain ⟨bt, hb, rfl⟩ := Option.map_eq_some_iff.1 hu
            have hj : j < (cat d.ki t t).length := (List.getElem?_eq_some_iff.1 hb).1
            obtain ⟨u', h1, ⟨bt', h2, h3⟩, _⟩ := hcS.cell HJD.out.sg hj
            rw [hb] at h2
            cases h2
            rw [h3] at h1
            rw [add0]; exact h1
          have hone : ∀ u ∈ (cat d.ki t t).map (xp E0 i), u.oneCell' = true := fun u hu => by
            obtain ⟨bt, _, rfl⟩ := List.mem_map.1 hu
            rfl
          refine wp_seq_hid (fun K4 HK4 => ?_)
          refine j9 hF (kb := (10, i, x, 0)) (kc := (10, i, t, 0)) (ki := (11, i, x, 0)) (q' := qi E0 i (cat d.ki x t)) HJD.out.sg HDb.out hcb hne HDD.out.2 hc1 HDS.out (by rw [e10]; simp [fup_at, y5]) (by rw [e10t]; simp [fup_at]) (by rw [List.length_map]) hnew hone (by omega) hqo hqn ?_
          intro y1 v' w4 hy1 hap
          refine HK4.out _ _ ?_
          clear HK4
          obtain ⟨E2, B2, hS2, hE2, hB2, cap2, hsl2⟩ := hap
          have hb2 := (hB2 (10, i, x, 0) hne).trans HDb.out
          have hS3 := hS2.setVal hb2 1 v'
          rw [hE2 (10, i, x, 0) hne] at hS3
          have f10 : E2 (10, i, x, 0) = E0 (10, i, x, 0) := (hE2 _ hne).trans e10
          have f10t : E2 (10, i, t, 0) = E0 (10, i, t, 0) := (hE2 _ (by simp)).trans e10t
          have hnt : ((10, i, t, 0) : Lab) ≠ (10, i, x, 0) := fun e => by
            injection e with _ e; injection e with _ e; injection e with e _
            omega
          refine j10 hF (kb := (10, i, x, 0)) (kc := (10, i, t, 0)) hS3 (lup_same _ _ _) (by rw [lup_other _ _ hnt, hB2 _ (by simp)]; exact hcb) hnt hc2 hc3 hc4 hc5 (by rw [f10, hy1 5 (by omega) (by kernel_rfl)]; simp [fup_at, y5]) (by rw [f10t, hy1 6 (by omega) (by kernel_rfl)]; simp [fup_at]) ?_
          intro yy w5 hyy hS5
          rw [lup_lup] at hS5
          obtain ⟨D5, hD5⟩ : ∃ D5 : Nat → Value, D5 = (fun s => if s = 2 then .int .u8 (d.kd t : Nat) else if s = 3 then .pointer none else if s = 4 then .slice a4 l4 c4' else if s = 5 then .int .i64 (d.ps t : Nat) else upd D 1 v' s) := ⟨_, rfl⟩
          rw [← hD5] at hS5
          have hB5 : ∀ l : Lab, l ≠ (10, i, x, 0) → l ≠ (11, i, x, 0) → lup B2 (10, i, x, 0) (some (vals 45 6 D5)) l = B' l := fun l h1 h2 => by rw [lup_other _ _ h1, hB2 l h2]
          have hen5 : en AB (x' + 1 + 1) x = t := by rw [← hx1]; exact en_yes hA1 (by rw [hx1, hen])
          have hexo : ∀ j, j ≠ x → ex AB (x' + 1 + 1) j = ex AB (x' + 1) j := fun j hj => by
            unfold ex
            by_cases ha : AB j = true
            · rw [if_pos ha, if_pos ha]
            · rw [if_neg ha, if_neg ha]
              refine en_no (fun h => hj ?_)
              exact en_inj (x := x' + 1) (by simpa using ha) hab (by rw [hen]; omega)
          have hexn : ex AB (x' + 1 + 1) x = t := by unfold ex; rw [hab, if_neg (by simp)]; exact hen5
          have hlcs : (cat d.ki x t).length = (cat d.ki x x').length + (cat d.ki t t).length := by rw [hcs, List.length_append]
          have hJ5 : Jn w0 w5 E0 B0 E2 (lup B2 (10, i, x, 0) (some (vals 45 6 D5))) i d pk rv (.slice (some ⟨E0 (2, i, 0, 0), 0, none⟩) d.n d.n) id (ex AB (x' + 1 + 1)) := by
            refine ⟨hS5, fun l hl => ?_, fun l hl => ?_, fun j hj => ?_, ?_⟩
            · rw [hE2 l (fun e => hl (by subst e; simp))]; exact HJD.out.he l hl
            · rw [hB5 l (fun e => hl (by subst e; simp)) (fun e => hl (by subst e; simp))]; exact HJD.out.hb l hl
            · by_cases e : j = x
              · subst e
                rw [hexn]
                refine ⟨D5, v', cap2, lup_same _ _ _, ?_, ?_, ?_, ?_, ?_, ?_, ?_⟩
                · rw [hD5]; exact (upd_other _ _ (by omega)).trans HDD.out.1
                · rw [hD5]; show upd D 1 v' 1 = v'; exact upd_same _ _ _
                · rw [hD5]; rfl
                · rw [hD5]; rfl
                · rw [hD5, hsu]; rfl
                · rw [hD5]; rfl
                · rw [hlcs]; exact hsl2.congr rfl (lup_other _ _ (by simp))
              · rw [hexo j e]
                have n1 : ∀ a, ((a, i, j, 0) : Lab) ≠ (a, i, x, 0) := fun a h => e (by injection h with _ h; injection h with _ h; injection h)
                exact (HJD.out.blk j hj).congr (hE2 _ (n1 11)) (hB5 _ (n1 10) (by simp)) (hB5 _ (by simp) (n1 11))
            · obtain ⟨nf, Df, h1, h2, h3⟩ := HJD.out.fn.mem
              exact ⟨nf, Df, h1, by rw [hB5 _ (by simp) (by simp)]; exact h2, h3⟩
          have hs : ∀ s, s < 136 → wrF (opsL (Ybaz.f8.body.bind (regAt 9))) 0 s = none → wrF (opsL (Ybaz.f8.body.bind (regAt 10))) 0 s = none → yy s = _ := fun s h1 h2 h3 => (hyy s h1 h3).trans (hy1 s h1 h2)
          refine HK3.out _ _ ⟨g - 1, by omega, HJk.out _ _ _ ⟨yy, rfl, x' + 1, E2, _, by omega, by omega, by omega, hJ5, by rw [hen5]; exact hx1, by rw [← hx1, gm_yes hA1, hx1]; exact hgm, fun l hl => ?_, fun l h1 h2 => ?_, ?_, ?_, ?_, ?_, ?_⟩⟩
          · rw [hE2 l (fun e => hl (by subst e; rfl))]; exact HE'.out l hl
          · rw [hB5 l (fun e => h1 (by subst e; rfl)) (fun e => h2 (by subst e; rfl))]; exact HB'.out l h1 h2
          · rw [hs 0 (by omega) (by kernel_rfl) (by kernel_rfl)]
            simp only [fup_at]; repeat rw [if_neg (by omega)]
            exact HY.out.1
          · rw [hs 2 (by omega) (by kernel_rfl) (by kernel_rfl)]
            simp only [fup_at]; repeat rw [if_neg (by omega)]
            exact HY.out.2.1
          · rw [hs 3 (by omega) (by kernel_rfl) (by kernel_rfl)]
            simp only [fup_at]; repeat rw [if_neg (by omega)]
            exact HY.out.2.2
          · rw [hs 4 (by omega) (by kernel_rfl) (by kernel_rfl)]
            simp [fup_at, hx1]
          · rw [hs 5 (by omega) (by kernel_rfl) (by kernel_rfl)]
            simp only [fup_at]; repeat rw [if_neg (by omega)]
            exact y5
        · have hd4 : decide (((pd d.tg d.n t : Nat) : Int) = 1) = false := decide_eq_false (fun h => c4 (by omega))
          go_still (by kernel_rfl)
          refine HEXIT.out _ (by simp [fup_at]; omega) (fun s hs => by simp only [fup_at]; repeat rw [if_neg (by omega)]) (HNo.out (fun _ h => c4 (HNot.out h).2))
      · have hqe : (binOp .eql 40 (.pointer (some ⟨E0 (10, i, t, 0), 0, none⟩)) (.pointer (some ⟨E0 (10, i, x1, 0), 0, none⟩))).run Ybaz.prog w2.drew = .ok (.bool false) w2.drew := by
          obtain ⟨la, ra, _⟩ := HJ'.out.row htn
          obtain ⟨lb, rb, _⟩ := HJ'.out.row c1
          exact nep40 w2.drew (ra.of_block rfl) (rb.of_block rfl) (HJ'.out.far htn c1 c3)
        go_still (by kernel_rfl)
        refine HEXIT.out _ (by simp [fup_at]) (fun s hs => by simp only [fup_at]; repeat rw [if_neg (by omega)]) (HNo.out (fun _ h => c3 (by have := (HNot.out h).1; rw [ht] at this; injection this)))
    · have hd2 : decide ((d.kd x' : Int) = 0) = false := by simp; omega
      go_still (by kernel_rfl)
      refine HEXIT.out _ (by simp [fup_at]) (fun s hs => by simp only [fup_at]; repeat rw [if_neg (by omega)]) (HNo.out (fun _ h => c2 ((HD.out.kt x').2 (by rw [(HNot.out h).1]; simp))))
  · have hd1 : decide ((x1 : Int) < (d.n : Int)) = false := by simp; omega
    go_still (by kernel_rfl)
    refine HEXIT.out _ (by simp [fup_at]) (fun s hs => by simp only [fup_at]; repeat rw [if_neg (by omega)]) (HNo.out (fun h _ => c1 h))
end Go.Proofs.YbulkexmzaGreat
