/-
  THE LAW of sink.function (7).
-/
import Derived.Test.YbulkexmzaGreatPg
namespace Go.Proofs.YbulkexmzaGreat
open Go.RowKit
attribute [local go_sem] fup_at
section
variable {w0 w w' : World} {E0 E : Lab → Nat} {B0 B : Lab → Option Lb} {i cap : Nat} {d : Fd} {pk : ByteArray} {rv : Value} {AB : Nat → Bool}
theorem Je.later (h : Je w0 w E0 B0 E B i d pk rv AB cap) (hs : w.Since w.heap.size w') : Je w0 w' E0 B0 E B i d pk rv AB cap :=
  ⟨h.jn.later (h.jn.sg.later hs) (fun _ _ => rfl) (fun _ _ => rfl), h.b7, h.c7⟩
theorem Je.blk (h : Je w0 w E0 B0 E B i d pk rv AB cap) {k : Nat} (hk : k < gm AB d.n) : BlkOk E E B i d (gd AB d.n k) k (en AB d.n (gd AB d.n k)) := by
  have h1 := h.jn.blk (gd AB d.n k) (gd_lt hk)
  have h2 := gd_not hk
  have h3 := gm_gd hk
  simp only [h2, h3, Bool.false_eq_true, if_false, ex] at h1
  exact h1.ptr (h.jn.he _ (by simp)) (fun a b => h.jn.he _ (by simp))
theorem Je.fx (h : Je w0 w E0 B0 E B i d pk rv AB cap) (hX : Fx E0 B0 i d) : Fx E B i d :=
  hX.congr (fun t => h.jn.he _ (by simp)) (fun e => h.jn.hb _ (by simp)) (fun a b => h.jn.hb _ (by simp))
theorem Je.cfg (h : Je w0 w E0 B0 E B i d pk rv AB cap) (hX : Fx E0 B0 i d) (hAB : AB = abs true d.tg d.n) (hd : Fdk d) :
    Cfg w (E (1, i, 0, 0)) (gm AB d.n) (fun k => E (10, i, gd AB d.n k, 0)) (fun k => (d.tg (en AB d.n (gd AB d.n k))).map (gm AB)) := by
  refine cfg_of (ix := gm AB) (ee := fun k => en AB d.n (gd AB d.n k)) h.jn.sg (h.fx hX) h.jn.fn h.b7 (by show _ ≤ cap * 1; have := h.c7; omega) (fun k u hk hu => ?_) (fun k hk => h.blk hk) (fun k hk => en_lt (gd_lt hk)) (fun k t hk ht => ?_) (fun k hk ht => ?_)
  · rw [h.jn.he (10, i, gd AB d.n k, 0) (by simp)]
    exact hu (by omega)
  · have htn := hd.tl _ _ ht
    have ha : AB t = false := by
      have ht' := ht
      rw [hAB] at ht' ⊢
      exact abs_succ (gd_lt (by rw [← hAB]; exact hk)) ht' htn
    exact ⟨by show Option.map _ _ = _; rw [ht]; rfl, gm_lt htn ha, gd_gm htn ha⟩
  · show Option.map _ _ = _
    rw [ht]; rfl
theorem Je.cfi (h : Je w0 w E0 B0 E B i d pk rv AB cap) (hX : Fx E0 B0 i d) (hd : Fdk d) :
    ∃ mi ins, Cfi w (E (1, i, 0, 0)) (gm AB d.n) (fun k => E (10, i, gd AB d.n k, 0)) mi ins (fun k => d.kd (en AB d.n (gd AB d.n k))) :=
  cfi_of hd h.jn.sg (h.fx hX) h.jn.fn (fun _ hk => h.blk hk) (fun _ hk => en_lt (gd_lt hk)) (fun _ _ => en_ge _ _)
end
set_option maxHeartbeats 4000000 in
set_option maxRecDepth 100000 in
theorem f7t {F : (Nat → Value) → Act} (hF : Fr 232 F) {w0 w : World} {E0 : Lab → Nat} {B0 : Lab → Option Lb} {i : Nat} {d : Fd} {pk al : ByteArray} {f : Nat → Value} {R : Ending → World → Prop} (hd : Fdk d)
    (hS : Sg w0 w E0 B0) (hX : Fx E0 B0 i d) (hbs : B0 (2, i, 0, 0) = some (bsr E0 i d.n)) (hblk : ∀ j, j < d.n → BlkOk E0 E0 B0 i d j j j) (hfn : FnS B0 i pk (.pointer none) (.slice (some ⟨E0 (2, i, 0, 0), 0, none⟩) d.n d.n))
    (h0 : f 0 = .pointer (some ⟨E0 (1, i, 0, 0), 0, none⟩)) (h1 : f 1 = .string al) (hR : ∀ w' E B cap, Je w0 w' E0 B0 E B i d pk (.pointer none) (abs true d.tg d.n) cap → R (.returned (.int .i64 0)) w') :
    (Ybaz.f7.body.getD .skip).wp Ybaz.prog (bodyPost Ybaz.prog Ybaz.f7 R) (F f) w := by
  conv => arg 2; whnf
  have hget := hF.get
  have hmk := hF.up
  have HR : Hid (∀ w' E B cap, Je w0 w' E0 B0 E B i d pk (.pointer none) (abs true d.tg d.n) cap → R (.returned (.int .i64 0)) w') := hR
  have HJ0 := join_any hd hS hX hbs hblk hfn
  have HD : Hid (Fdk d) := hd
  have HX : Hid (Fx E0 B0 i d) := hX
  have hnm := hd.nm
  have hn1 := hd.n1
  clear hR hd hS hX hbs hblk hfn
  refine wp_seq_hid (fun K HK => ?_)
  go_wp2
  refine HK.out _ _ ?_
  clear HK
  refine wp_seq_hid (fun K HK => ?_)
  go_wp2_with (go_at_call 8; refine Calls.mono HJ0 ?_; rintro _ w1 ⟨rfl, E, B, cap, hje⟩; dsimp only)
  refine HK.out _ _ ?_
  clear HK HJ0
  obtain ⟨AB, hAB⟩ : ∃ AB, AB = abs true d.tg d.n := ⟨_, rfl⟩
  have HJE : Hid (Je w0 w1 E0 B0 E B i d pk (.pointer none) AB cap) := by rw [hAB]; exact hje
  have e1 : E (1, i, 0, 0) = E0 (1, i, 0, 0) := hje.jn.he _ (by simp)
  have hC := HJE.out.cfg HX.out hAB HD.out
  obtain ⟨mi, ins, hI⟩ := HJE.out.cfi HX.out HD.out
  obtain ⟨nf, D, hnf, hfb, hfp, h5, h8, h9, h10, h11⟩ := HJE.out.jn.fn.mem
  have k5 := HJE.out.jn.sg.val hfb (i := 5) (by omega)
  have k9 := HJE.out.jn.sg.val hfb (i := 9) (by omega)
  have k10 := HJE.out.jn.sg.val hfb (i := 10) (by omega)
  rw [h5] at k5
  rw [h9] at k9
  rw [h10] at k10
  rw [e1] at k5 k9 k10 hC hI
  have hA0 : AB 0 = false := by rw [hAB]; exact abs_zero _ _ _
  have hmp := gm_pos hA0 (x := d.n) (by omega)
  have hml := gm_le (ab := AB) d.n
  have HR2 : Hid (∀ w', w1.Since w1.heap.size w' → R (.returned (.int .i64 0)) w') := fun w' hs => by
    refine HR.out w' E B cap ?_
    rw [← hAB]
    exact HJE.out.later hs
  have HC : Hid (Cfg w1 (E0 (1, i, 0, 0)) (gm AB d.n) (fun k => E (10, i, gd AB d.n k, 0)) (fun k => (d.tg (en AB d.n (gd AB d.n k))).map (gm AB))) := hC
  have HI : Hid (Cfi w1 (E0 (1, i, 0, 0)) (gm AB d.n) (fun k => E (10, i, gd AB d.n k, 0)) mi ins (fun k => d.kd (en AB d.n (gd AB d.n k)))) := hI
  have HK5 : Hid (w1.cell? ⟨E0 (1, i, 0, 0), 5, none⟩ = some (.pointer none) ∧ w1.cell? ⟨E0 (1, i, 0, 0), 9, none⟩ = some (.slice none 0 0) ∧ w1.cell? ⟨E0 (1, i, 0, 0), 10, none⟩ = some (.slice none 0 0)) := ⟨k5, k9, k10⟩
  clear hC hI k5 k9 k10 HJE hje hfb hfp h5 h8 h9 h10 h11 hAB HR HX HD e1 hA0
  generalize gm AB d.n = n at *
  have hP := pred_any HC.out (by omega) hmp
  refine wp_seq_hid (fun K HK => ?_)
  go_wp2_with (go_at_call 9; refine Calls.mono hP ?_; rintro _ w2 ⟨pb, rfl, hpq⟩; dsimp only)
  refine HK.out _ _ ?_
  clear HK hP
  have hs2 := hpq.s
  have hN := sinker_any (pb := pb) (al := al) (HC.out.since hs2) (HI.out.since hs2) (old_cell hs2 HK5.out.1) (old_cell hs2 HK5.out.2.1) (old_cell hs2 HK5.out.2.2) (by omega) hmp
  clear hpq
  refine wp_seq_hid (fun K HK => ?_)
  go_wp2_with (go_at_call 10; refine Calls.mono hN ?_; rintro _ w3 ⟨sp, rfl, hs3, hsp, k21, k22⟩; dsimp only)
  refine HK.out _ _ ?_
  clear HK hN
  have hs3' := since2 hs2 hs3
  exact f7r hF (pb := pb) (HC.out.since hs3') (HI.out.since hs3') k21 k22 (by omega) hmp (by simp [fup_at, h0]) (by simp [fup_at]) (by simp [fup_at]) (fun w' hs => HR2.out w' (since2 hs3' hs))
theorem fn_any {w0 w : World} {E0 : Lab → Nat} {B0 : Lab → Option Lb} {i : Nat} {d : Fd} {pk al : ByteArray} (hd : Fdk d)
    (hS : Sg w0 w E0 B0) (hX : Fx E0 B0 i d) (hbs : B0 (2, i, 0, 0) = some (bsr E0 i d.n)) (hblk : ∀ j, j < d.n → BlkOk E0 E0 B0 i d j j j) (hfn : FnS B0 i pk (.pointer none) (.slice (some ⟨E0 (2, i, 0, 0), 0, none⟩) d.n d.n)) :
    Calls Ybaz.prog 7 #[.pointer (some ⟨E0 (1, i, 0, 0), 0, none⟩), .string al] w fun e w' => e = .returned (.int .i64 0) ∧ ∃ E B cap, Je w0 w' E0 B0 E B i d pk (.pointer none) (abs true d.tg d.n) cap := by
  refine calls_of_wp Ybaz.func7 rfl ?_
  rw [(frm_fr 232).of (Act.mk _ _) (by simp [Ybaz.ntmps7]) rfl]
  exact f7t (frm_fr 232) (al := al) hd hS hX hbs hblk hfn (by simp) (by simp) (fun w' E B cap h => ⟨rfl, E, B, cap, h⟩)
end Go.Proofs.YbulkexmzaGreat
