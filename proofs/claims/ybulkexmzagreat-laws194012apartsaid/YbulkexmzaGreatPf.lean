/-
  THE LAW of sink.join (8).
-/
import Derived.Test.YbulkexmzaGreatPe
namespace Go.Proofs.YbulkexmzaGreat
open Go.RowKit
attribute [local go_sem] fup_at
section
variable {w0 w : World} {E0 E : Lab → Nat} {B0 B : Lab → Option Lb} {i : Nat} {d : Fd} {pk : ByteArray} {rv v11 : Value} {id ee : Nat → Nat}
theorem Jn.set11 (hJ : Jn w0 w E0 B0 E B i d pk rv v11 id ee) (v : Value) : ∃ B', Jn w0 (w.setCell ⟨E0 (1, i, 0, 0), 11, none⟩ v) E0 B0 E B' i d pk rv v id ee ∧ ∀ l, l ≠ (1, i, 0, 0) → B' l = B l := by
  obtain ⟨nf, D, h1, h2, h3, h4, h5, h6, h7, h8⟩ := hJ.fn.mem
  have hs := hJ.sg.setVal h2 11 v
  rw [hJ.he (1, i, 0, 0) (by simp)] at hs
  have ho : ∀ l, l ≠ (1, i, 0, 0) → lup B (1, i, 0, 0) (some (vals 59 nf (upd D 11 v))) l = B l := fun l hl => lup_other _ _ hl
  refine ⟨_, ⟨hs, hJ.he, fun l hl => ?_, fun j hj => ?_, ⟨nf, _, h1, lup_same _ _ _, ?_, ?_, ?_, ?_, ?_, upd_same _ _ _⟩⟩, ho⟩
  · rw [ho l (fun e => hl (by subst e; simp))]; exact hJ.hb l hl
  · exact (hJ.blk j hj).congr rfl (ho _ (by simp)) (ho _ (by simp))
  · rw [upd_other _ _ (by omega)]; exact h3
  · rw [upd_other _ _ (by omega)]; exact h4
  · rw [upd_other _ _ (by omega)]; exact h5
  · rw [upd_other _ _ (by omega)]; exact h6
  · rw [upd_other _ _ (by omega)]; exact h7
theorem Jn.idc (hJ : Jn w0 w E0 B0 E B i d pk rv v11 id ee) {id' : Nat → Nat} (h : ∀ j, j < d.n → id j = id' j) : Jn w0 w E0 B0 E B i d pk rv v11 id' ee :=
  ⟨hJ.sg, hJ.he, hJ.hb, fun j hj => by rw [← h j hj]; exact hJ.blk j hj, hJ.fn⟩
theorem Jn.frz11 (hJ : Jn w0 w E0 B0 E B i d pk rv v11 id ee) : w.frozen? ⟨E0 (1, i, 0, 0), 11, none⟩ = false := by
  obtain ⟨nf, D, h1, h2, _⟩ := hJ.fn.mem
  have := hJ.sg.frz h2 11
  rwa [hJ.he (1, i, 0, 0) (by simp)] at this
theorem Jn.cid (hJ : Jn w0 w E0 B0 E B i d pk rv v11 id ee) {j : Nat} (hj : j < d.n) : w.cell? ⟨E0 (10, i, j, 0), 0, none⟩ = some (.int .i64 (id j : Nat)) ∧ w.frozen? ⟨E0 (10, i, j, 0), 0, none⟩ = false := by
  obtain ⟨D, sv, cap, h1, h2, _⟩ := (hJ.blk j hj).mem
  have a := hJ.sg.val h1 (i := 0) (by omega)
  have b := hJ.sg.frz h1 0
  rw [hJ.he (10, i, j, 0) (by simp)] at a b
  rw [h2] at a
  exact ⟨a, b⟩
theorem Jn.setid (hJ : Jn w0 w E0 B0 E B i d pk rv v11 id ee) {j : Nat} (hj : j < d.n) (k : Nat) {id' : Nat → Nat} (hid : ∀ t, t < d.n → id' t = upd id j k t) : ∃ B', Jn w0 (w.setCell ⟨E0 (10, i, j, 0), 0, none⟩ (.int .i64 (k : Nat))) E0 B0 E B' i d pk rv v11 id' ee ∧ ∀ l, l ≠ (10, i, j, 0) → B' l = B l := by
  obtain ⟨D, sv, cap, h1, h2, h3, h4, h5, h6, h7, h8⟩ := (hJ.blk j hj).mem
  have hs := hJ.sg.setVal h1 0 (.int .i64 (k : Nat))
  rw [hJ.he (10, i, j, 0) (by simp)] at hs
  have ho : ∀ l, l ≠ (10, i, j, 0) → lup B (10, i, j, 0) (some (vals 45 6 (upd D 0 (.int .i64 (k : Nat))))) l = B l := fun l hl => lup_other _ _ hl
  refine ⟨_, ⟨hs, hJ.he, fun l hl => ?_, fun t ht => ?_, ?_⟩, ho⟩
  · rw [ho l (fun e => hl (by subst e; simp))]; exact hJ.hb l hl
  · rw [hid t ht]
    by_cases e : t = j
    · subst e
      rw [upd_same]
      refine ⟨_, sv, cap, lup_same _ _ _, upd_same _ _ _, ?_, ?_, ?_, ?_, ?_, h8.congr rfl (ho _ (by simp))⟩
      · rw [upd_other _ _ (by omega)]; exact h3
      · rw [upd_other _ _ (by omega)]; exact h4
      · rw [upd_other _ _ (by omega)]; exact h5
      · rw [upd_other _ _ (by omega)]; exact h6
      · rw [upd_other _ _ (by omega)]; exact h7
    · rw [upd_other _ _ e]
      exact (hJ.blk t ht).congr rfl (ho _ (fun h => e (by injection h with _ h; injection h with _ h; injection h))) (ho _ (by simp))
  · obtain ⟨nf, D, h1, h2, h3⟩ := hJ.fn.mem
    exact ⟨nf, D, h1, by rw [ho _ (by simp)]; exact h2, h3⟩
end
/-- What join leaves. -/
structure Je (w0 w : World) (E0 : Lab → Nat) (B0 : Lab → Option Lb) (E : Lab → Nat) (B : Lab → Option Lb) (i : Nat) (d : Fd) (pk : ByteArray) (rv : Value) (AB : Nat → Bool) (cap : Nat) : Prop where
  jn : Jn w0 w E0 B0 E B i d pk rv (.slice (some ⟨E (7, i, 0, 0), 0, none⟩) (gm AB d.n) cap) (fun j => if AB j = true then j else gm AB j) (ex AB d.n)
  b7 : B (7, i, 0, 0) = some (gl 40 1 (gm AB d.n) cap (qd E0 i (gd AB d.n)))
  c7 : gm AB d.n ≤ cap
def idk (AB : Nat → Bool) (k j : Nat) : Nat := if AB j = true then j else if gm AB j < k then gm AB j else j
set_option maxHeartbeats 4000000 in
set_option maxRecDepth 100000 in
theorem j0t {F : (Nat → Value) → Act} (hF : Fr 136 F) {w0 w : World} {E0 : Lab → Nat} {B0 : Lab → Option Lb} {i : Nat} {d : Fd} {pk : ByteArray} {rv : Value} {AB : Nat → Bool} {f : Nat → Value} {R : Ending → World → Prop} (hAB : AB = abs true d.tg d.n) (hd : Fdk d)
    (hS : Sg w0 w E0 B0) (hX : Fx E0 B0 i d) (hbs : B0 (2, i, 0, 0) = some (bsr E0 i d.n)) (hblk : ∀ j, j < d.n → BlkOk E0 E0 B0 i d j j j) (hfn : FnS B0 i pk rv (.slice (some ⟨E0 (2, i, 0, 0), 0, none⟩) d.n d.n))
    (h0 : f 0 = .pointer (some ⟨E0 (1, i, 0, 0), 0, none⟩)) (hR : ∀ w' E B cap, Je w0 w' E0 B0 E B i d pk rv AB cap → R (.returned (.tuple #[])) w') :
    (Ybaz.f8.body.getD .skip).wp Ybaz.prog (bodyPost Ybaz.prog Ybaz.f8 R) (F f) w := by
  conv => arg 2; whnf
  have hget := hF.get
  have hmk := hF.up
  have HR : Hid (∀ w' E B cap, Je w0 w' E0 B0 E B i d pk rv AB cap → R (.returned (.tuple #[])) w') := hR
  have HX : Hid (Fx E0 B0 i d) := hX
  have HD : Hid (Fdk d) := hd
  have HBS : Hid (B0 (2, i, 0, 0) = some (bsr E0 i d.n)) := hbs
  have HS : Hid (Sg w0 w E0 B0) := hS
  have HBK : Hid (∀ j, j < d.n → BlkOk E0 E0 B0 i d j j j) := hblk
  have HFN : Hid (FnS B0 i pk rv (.slice (some ⟨E0 (2, i, 0, 0), 0, none⟩) d.n d.n)) := hfn
  have hP := pred_any (cfg_of (m := d.n) (ld := fun k => k) (ee := fun k => k) (ix := fun k => k) (sc := d.tg) hS hX hfn hbs (Nat.le_refl _) (fun k u _ h => h) hblk (fun k hk => hk) (fun k t hk ht => ⟨ht, hd.tl k t ht, rfl⟩) (fun k hk ht => ht)) hd.nm hd.n1
  have hnm := hd.nm
  have hn1 := hd.n1
  have hA0 : AB 0 = false := by rw [hAB]; exact abs_zero _ _ _
  have HAB : Hid (AB = abs true d.tg d.n) := hAB
  clear hR hX hd hbs hS hblk hfn hAB
  refine wp_seq_hid (fun K HK => ?_)
  go_wp2_with (go_at_call 9; refine Calls.mono hP ?_; rintro _ w1 ⟨g8, rfl, hpq⟩; dsimp only)
  refine HK.out _ _ ?_
  clear HK hP
  have HJ : Hid (Jn w0 w1 E0 B0 (lup E0 (8, i, 0, 0) g8) (lup B0 (8, i, 0, 0) (some (arr d.n (fun k => ((pd d.tg d.n k : Nat) : Int))))) i d pk rv (.slice (some ⟨E0 (2, i, 0, 0), 0, none⟩) d.n d.n) (fun j => j) (ex AB 0)) := by
    have hs := HS.out.made hpq.s hpq.b hpq.row (8, i, 0, 0)
    have n8 : ∀ l : Lab, ¬ (l.2.1 = i ∧ (l.1 = 7 ∨ l.1 = 8)) → l ≠ (8, i, 0, 0) := fun l hl e => hl (by subst e; simp)
    have e0 : ex AB 0 = fun j => j := by
      funext j
      unfold ex
      split
      · rfl
      · rfl
    have h0 : Jn w0 w E0 B0 E0 B0 i d pk rv (.slice (some ⟨E0 (2, i, 0, 0), 0, none⟩) d.n d.n) (fun j => j) (ex AB 0) := ⟨HS.out, fun _ _ => rfl, fun _ _ => rfl, by rw [e0]; exact HBK.out, HFN.out⟩
    exact h0.later hs (fun l hl => lup_other _ _ (n8 l hl)) (fun l hl => lup_other _ _ (n8 l hl))
  obtain ⟨E1, hE1⟩ : ∃ E1, E1 = lup E0 (8, i, 0, 0) g8 := ⟨_, rfl⟩
  obtain ⟨B1, hB1⟩ : ∃ B1, B1 = lup B0 (8, i, 0, 0) (some (arr d.n (fun k => ((pd d.tg d.n k : Nat) : Int)))) := ⟨_, rfl⟩
  have e8 : g8 = E1 (8, i, 0, 0) := by rw [hE1, lup_same]
  have HB8 : Hid (B1 (8, i, 0, 0) = some (arr d.n (fun k => ((pd d.tg d.n k : Nat) : Int)))) := by rw [hB1]; exact lup_same _ _ _
  rw [← hE1, ← hB1] at HJ
  rw [e8]
  clear hE1 hB1 e8 hpq HS HBK HFN
  refine wp_seq_hid (fun K HK => ?_)
  go_wp2
  refine HK.out _ _ ?_
  clear HK
  refine wp_seq_hid (fun K HK => ?_)
  refine wp_seq_hid (fun K2 HK2 => ?_)
  go_wp2
  refine HK2.out _ _ ?_
  clear HK2
  refine wp_block ?_
  refine wp_loop_ghost_k (fun g a w => ∃ y, a = F y ∧ ∃ x E B v3 cap, g + x = d.n ∧ (x < d.n → AB x = false) ∧ Jn w0 w E0 B0 E B i d pk rv (.slice (some ⟨E0 (2, i, 0, 0), 0, none⟩) d.n d.n) (fun j => j) (ex AB x) ∧ B (8, i, 0, 0) = some (arr d.n (fun k => ((pd d.tg d.n k : Nat) : Int))) ∧ Slg E B (7, i, 0, 0) 40 (gm AB x) cap (qd E0 i (gd AB x)) v3 ∧ y 0 = .pointer (some ⟨E0 (1, i, 0, 0), 0, none⟩) ∧ y 2 = .slice (some ⟨E (8, i, 0, 0), 0, none⟩) d.n d.n ∧ y 3 = v3 ∧ y 4 = .int .i64 (x : Nat)) d.n
    ⟨_, rfl, 0, E1, B1, .slice none 0 0, 0, rfl, fun _ => hA0, HJ.out, HB8.out, .inl ⟨rfl, rfl⟩, by simp [fup_at, h0], by simp [fup_at], by simp [fup_at], by simp [fup_at]⟩ ?_
  clear HJ HB8 h0
  rintro g _ w2 ⟨y, rfl, x, E, B, v3, cap, hg, hxa, hJ, hb8, hsl, y0, y2, y3, y4⟩ J K3 hJk hK3
  have HJk : Hid (∀ g a w, (∃ y, a = F y ∧ ∃ x E B v3 cap, g + x = d.n ∧ (x < d.n → AB x = false) ∧ Jn w0 w E0 B0 E B i d pk rv (.slice (some ⟨E0 (2, i, 0, 0), 0, none⟩) d.n d.n) (fun j => j) (ex AB x) ∧ B (8, i, 0, 0) = some (arr d.n (fun k => ((pd d.tg d.n k : Nat) : Int))) ∧ Slg E B (7, i, 0, 0) 40 (gm AB x) cap (qd E0 i (gd AB x)) v3 ∧ y 0 = .pointer (some ⟨E0 (1, i, 0, 0), 0, none⟩) ∧ y 2 = .slice (some ⟨E (8, i, 0, 0), 0, none⟩) d.n d.n ∧ y 3 = v3 ∧ y 4 = .int .i64 (x : Nat)) → J g a w) := hJk
  have HK3 : Hid (∀ a' w', Handed J g a' w' → K3 a' w') := hK3
  have HJ : Hid (Jn w0 w2 E0 B0 E B i d pk rv (.slice (some ⟨E0 (2, i, 0, 0), 0, none⟩) d.n d.n) (fun j => j) (ex AB x)) := hJ
  have HSL : Hid (Slg E B (7, i, 0, 0) 40 (gm AB x) cap (qd E0 i (gd AB x)) v3) := hsl
  have HB8 : Hid (B (8, i, 0, 0) = some (arr d.n (fun k => ((pd d.tg d.n k : Nat) : Int)))) := hb8
  have k11 := hJ.c11
  clear hJk hK3 hJ hsl hb8
  refine wp_seq_hid (fun K4 HK4 => ?_)
  go_wp2
  clear k11
  refine hF.cond (by omega) rfl (fun hh => ?_) (fun hh => ?_)
  · have hx : x < d.n := by simpa using hh
    clear hh
    go_wp2
    refine HK4.out _ _ ?_
    clear HK4
    refine j5 hF HAB.out HD.out HJ.out HX.out HBS.out HB8.out hx (hxa hx) HSL.out (by simp [fup_at, y0]) (by simp [fup_at, y2]) (by simp [fup_at, y3]) (by simp [fup_at, y4]) ?_
    intro x' y' w' E' B' v3' cap' hxx hx'n hnx hJ' hb8' he8' hsl' z0 z2 z3 z4
    refine HK3.out _ _ ⟨d.n - (x' + 1), by omega, HJk.out _ _ _ ⟨y', rfl, x' + 1, E', B', v3', cap', by omega, hnx, hJ', hb8'.trans HB8.out, hsl', z0.trans (by simp [fup_at, y0]), z2.trans (by rw [he8']; simp [fup_at, y2]), z3, z4⟩⟩
  · have hx : x = d.n := by
      have : ¬ x < d.n := by simpa using hh
      omega
    subst hx
    clear hh HK3 HJk HK4
    go_wp2
    refine HK.out _ _ ?_
    clear HK
    have hmp := gm_pos hA0 (x := d.n) (by omega)
    have hml := gm_le (ab := AB) d.n
    obtain ⟨rfl, hb7, hcap⟩ : v3 = .slice (some ⟨E (7, i, 0, 0), 0, none⟩) (gm AB d.n) cap ∧ B (7, i, 0, 0) = some (gl 40 1 (gm AB d.n) cap (qd E0 i (gd AB d.n))) ∧ gm AB d.n ≤ cap := by
      rcases HSL.out with ⟨_, h⟩ | ⟨h1, h2, h3, _⟩
      · omega
      · exact ⟨h1, h2, h3⟩
    obtain ⟨m, hm⟩ : ∃ m, m = gm AB d.n := ⟨_, rfl⟩
    have HM : Hid (m = gm AB d.n) := hm
    have k11 := HJ.out.c11
    have kf := HJ.out.frz11
    obtain ⟨B2, hJ2, hB2⟩ := HJ.out.set11 (.slice (some ⟨E (7, i, 0, 0), 0, none⟩) (gm AB d.n) cap)
    rw [← hB2 _ (by simp)] at hb7
    rw [← hm] at hJ2 hb7 hcap y3 hmp hml
    have HJ2 : Hid (Jn w0 (w2.setCell ⟨E0 (1, i, 0, 0), 11, none⟩ (.slice (some ⟨E (7, i, 0, 0), 0, none⟩) m cap)) E0 B0 E B2 i d pk rv (.slice (some ⟨E (7, i, 0, 0), 0, none⟩) m cap) (idk AB 0) (ex AB d.n)) := by
      have : idk AB 0 = fun j => j := by
        funext j
        unfold idk
        split
        · rfl
        · rw [if_neg (by omega)]
      rw [this]; exact hJ2
    have HB7 : Hid (B2 (7, i, 0, 0) = some (gl 40 1 m cap (qd E0 i (gd AB d.n)))) := hb7
    clear hJ2 hB2 hb7 hm HJ HSL HB8
    refine wp_seq_hid (fun K HK => ?_)
    go_wp2
    refine HK.out _ _ ?_
    clear HK k11 kf
    generalize w2.setCell ⟨E0 (1, i, 0, 0), 11, none⟩ (.slice (some ⟨E (7, i, 0, 0), 0, none⟩) m cap) = w3 at HJ2 ⊢
    refine wp_seq_hid (fun K HK => ?_)
    go_wp2
    refine HK.out _ _ ?_
    clear HK
    refine wp_block ?_
    refine wp_loop_ghost_k (fun g a w => ∃ y, a = F y ∧ ∃ k B, g + k = m ∧ Jn w0 w E0 B0 E B i d pk rv (.slice (some ⟨E (7, i, 0, 0), 0, none⟩) m cap) (idk AB k) (ex AB d.n) ∧ B (7, i, 0, 0) = some (gl 40 1 m cap (qd E0 i (gd AB d.n))) ∧ y 124 = .slice (some ⟨E (7, i, 0, 0), 0, none⟩) m cap ∧ y 125 = .int .i64 (m : Nat) ∧ y 126 = .int .i64 (k : Nat)) m
      ⟨_, rfl, 0, B2, rfl, HJ2.out, HB7.out, by simp [fup_at], by simp [fup_at], by simp [fup_at]⟩ ?_
    clear HJ2 HB7 y0 y2 y3 y4 y B2 w3
    rintro g _ w3 ⟨y, rfl, k, B2, hg, hJ, hb7, y124, y125, y126⟩ J K3 hJk hK3
    have HJk : Hid (∀ g a w, (∃ y, a = F y ∧ ∃ k B, g + k = m ∧ Jn w0 w E0 B0 E B i d pk rv (.slice (some ⟨E (7, i, 0, 0), 0, none⟩) m cap) (idk AB k) (ex AB d.n) ∧ B (7, i, 0, 0) = some (gl 40 1 m cap (qd E0 i (gd AB d.n))) ∧ y 124 = .slice (some ⟨E (7, i, 0, 0), 0, none⟩) m cap ∧ y 125 = .int .i64 (m : Nat) ∧ y 126 = .int .i64 (k : Nat)) → J g a w) := hJk
    have HK3 : Hid (∀ a' w', Handed J g a' w' → K3 a' w') := hK3
    have HJ : Hid (Jn w0 w3 E0 B0 E B2 i d pk rv (.slice (some ⟨E (7, i, 0, 0), 0, none⟩) m cap) (idk AB k) (ex AB d.n)) := hJ
    have HB7 : Hid (B2 (7, i, 0, 0) = some (gl 40 1 m cap (qd E0 i (gd AB d.n)))) := hb7
    clear hJk hK3 hJ hb7
    refine wp_seq_hid (fun K4 HK4 => ?_)
    go_wp2
    refine HK4.out _ _ ?_
    clear HK4
    refine wp_seq_hid (fun K4 HK4 => ?_)
    refine hF.cond (by omega) rfl (fun hh => ?_) (fun hh => ?_)
    · have hk : k < m := by simpa using hh
      have hkz : (k : Int) < (m : Int) := by omega
      clear hh
      go_wp2
      refine HK4.out _ _ ?_
      clear HK4
      have hgl : gd AB d.n k < d.n := gd_lt (by rw [← HM.out]; exact hk)
      have kr : w3.cell? ⟨E (7, i, 0, 0), k, none⟩ = some (.pointer (some ⟨E0 (10, i, gd AB d.n k, 0), 0, none⟩)) := by
        obtain ⟨u, h1, h2⟩ := HJ.out.sg.read HB7.out (i := k) (by show k < cap * 1; omega)
        rw [h1]; exact congrArg some (h2 (by omega))
      obtain ⟨kc, kf⟩ := HJ.out.cid hgl
      obtain ⟨B3, hJ3, hB3⟩ := HJ.out.setid hgl k (id' := idk AB (k + 1)) (fun t ht => by
        have hn := gd_not (ab := AB) (x := d.n) (k := k) (by rw [← HM.out]; exact hk)
        have hk' := gm_gd (ab := AB) (x := d.n) (k := k) (by rw [← HM.out]; exact hk)
        unfold idk
        by_cases e : t = gd AB d.n k
        · subst e
          rw [upd_same, hn, if_neg (by simp), hk', if_pos (by omega)]
        · rw [upd_other _ _ e]
          by_cases ha : AB t = true
          · rw [if_pos ha, if_pos ha]
          · rw [if_neg ha, if_neg ha]
            by_cases hl : gm AB t < k
            · rw [if_pos hl, if_pos (by omega)]
            · rw [if_neg hl]
              by_cases hl2 : gm AB t < k + 1
              · exfalso
                have : gm AB t = k := by omega
                have h1 := gd_gm (ab := AB) ht (by simpa using ha)
                rw [this] at h1
                exact e h1.symm
              · rw [if_neg hl2])
      have HJ3 : Hid (Jn w0 (w3.setCell ⟨E0 (10, i, gd AB d.n k, 0), 0, none⟩ (.int .i64 (k : Nat))) E0 B0 E B3 i d pk rv (.slice (some ⟨E (7, i, 0, 0), 0, none⟩) m cap) (idk AB (k + 1)) (ex AB d.n)) := hJ3
      have HB3 : Hid (B3 (7, i, 0, 0) = some (gl 40 1 m cap (qd E0 i (gd AB d.n)))) := (hB3 _ (by simp)).trans HB7.out
      clear hJ3 hB3 HJ HB7
      refine wp_seq_hid (fun K4 HK4 => ?_)
      refine wp_block ?_
      refine wp_seq_hid (fun K5 HK5 => ?_)
      go_wp2
      refine HK5.out _ _ ?_
      clear HK5 kr
      go_wp2
      refine HK4.out _ _ ?_
      clear HK4 kc kf
      go_wp2
      refine HK3.out _ _ ⟨g - 1, by omega, HJk.out _ _ _ ⟨_, rfl, k + 1, B3, by omega, HJ3.out, HB3.out, by simp [fup_at, y124], by simp [fup_at, y125], by simp [fup_at]⟩⟩
    · have hk : k = m := by
        have : ¬ k < m := by simpa using hh
        omega
      subst hk
      clear hh HK3 HJk HK4
      go_wp2
      refine bodyPost_end (results_none rfl _ _ _) (hF.df _) (HR.out w3 E B2 cap ?_)
      have hm := HM.out
      refine ⟨?_, by rw [← hm]; exact HB7.out, by rw [← hm]; exact hcap⟩
      rw [← hm]
      refine HJ.out.idc (fun j hj => ?_)
      unfold idk
      by_cases ha : AB j = true
      · rw [if_pos ha, if_pos ha]
      · rw [if_neg ha, if_neg ha]
        have := gm_lt (ab := AB) hj (by simpa using ha)
        rw [if_pos (by omega)]
theorem join_any {w0 w : World} {E0 : Lab → Nat} {B0 : Lab → Option Lb} {i : Nat} {d : Fd} {pk : ByteArray} {rv : Value} (hd : Fdk d)
    (hS : Sg w0 w E0 B0) (hX : Fx E0 B0 i d) (hbs : B0 (2, i, 0, 0) = some (bsr E0 i d.n)) (hblk : ∀ j, j < d.n → BlkOk E0 E0 B0 i d j j j) (hfn : FnS B0 i pk rv (.slice (some ⟨E0 (2, i, 0, 0), 0, none⟩) d.n d.n)) :
    Calls Ybaz.prog 8 #[.pointer (some ⟨E0 (1, i, 0, 0), 0, none⟩)] w fun e w' => e = .returned (.tuple #[]) ∧ ∃ E B cap, Je w0 w' E0 B0 E B i d pk rv (abs true d.tg d.n) cap := by
  refine calls_of_wp Ybaz.func8 rfl ?_
  rw [(frm_fr 136).of (Act.mk _ _) (by simp [Ybaz.ntmps8]) rfl]
  exact j0t (frm_fr 136) rfl hd hS hX hbs hblk hfn (by simp) (fun w' E B cap h => ⟨rfl, E, B, cap, h⟩)
end Go.Proofs.YbulkexmzaGreat
