/-
  THE LAW of sink.Program (4).
-/
import Derived.Test.YbulkexmzaGreatPi
import Derived.Test.YbulkexmzaGreatPh
namespace Go.Proofs.YbulkexmzaGreat
open Go.RowKit
attribute [local go_sem] fup_at
/-- A function as it is laid, ahead of Program. -/
structure Fok (E : Lab → Nat) (B : Lab → Option Lb) (i : Nat) (d : Fd) (pk : ByteArray) (rv : Value) : Prop where
  fx : Fx E B i d
  bs : B (2, i, 0, 0) = some (bsr E i d.n)
  blk : ∀ j, j < d.n → BlkOk E E B i d j j j
  fn : FnS B i pk rv (.slice (some ⟨E (2, i, 0, 0), 0, none⟩) d.n d.n)
/-- A function as Program leaves it. -/
structure Fdn (E : Lab → Nat) (B : Lab → Option Lb) (i : Nat) (d : Fd) (pk : ByteArray) (rv : Value) (AB : Nat → Bool) : Prop where
  fn : ∃ bl cap lb, FnS B i pk rv (.slice (some ⟨E bl, 0, none⟩) (gm AB d.n) cap) ∧ (bl = (2, i, 0, 0) ∨ bl = (7, i, 0, 0)) ∧ B bl = some lb ∧ gm AB d.n ≤ lb.n ∧ ∀ k u, k < gm AB d.n → lb.p k u → u = .pointer (some ⟨E (10, i, gd AB d.n k, 0), 0, none⟩)
  blk : ∀ k, k < gm AB d.n → BlkOk E E B i d (gd AB d.n k) k (en AB d.n (gd AB d.n k))
section
variable {w0 w : World} {E0 E E' : Lab → Nat} {B0 B B' : Lab → Option Lb} {i cap : Nat} {d : Fd} {pk : ByteArray} {rv : Value} {AB : Nat → Bool}
theorem BlkOk.all {j id e : Nat} (h : BlkOk E E B i d j id e) (he : ∀ l : Lab, l.1 ≠ 0 → l.2.1 = i → E' l = E l) (hb : ∀ l : Lab, l.1 ≠ 0 → l.2.1 = i → B' l = B l) : BlkOk E' E' B' i d j id e :=
  (h.congr (he _ (by simp) rfl) (hb _ (by simp) rfl) (hb _ (by simp) rfl)).ptr (he _ (by simp) rfl) (fun a b => he _ (by simp) rfl)
theorem FnS.all {v : Value} (h : FnS B i pk rv v) (hb : ∀ l : Lab, l.1 ≠ 0 → l.2.1 = i → B' l = B l) : FnS B' i pk rv v := by
  obtain ⟨nf, D, h1, h2, h3⟩ := h.mem
  exact ⟨nf, D, h1, by rw [hb _ (by simp) rfl]; exact h2, h3⟩
theorem Fok.all (h : Fok E B i d pk rv) (he : ∀ l : Lab, l.1 ≠ 0 → l.2.1 = i → E' l = E l) (hb : ∀ l : Lab, l.1 ≠ 0 → l.2.1 = i → B' l = B l) : Fok E' B' i d pk rv := by
  refine ⟨h.fx.congr (fun t => he _ (by simp) rfl) (fun e => hb _ (by simp) rfl) (fun a b => hb _ (by simp) rfl), ?_, fun j hj => (h.blk j hj).all he hb, ?_⟩
  · rw [hb _ (by simp) rfl, h.bs]
    unfold bsr
    congr 2
    funext j
    rw [he _ (by simp) rfl]
  · rw [he _ (by simp) rfl]; exact h.fn.all hb
theorem Fdn.all (h : Fdn E B i d pk rv AB) (he : ∀ l : Lab, l.1 ≠ 0 → l.2.1 = i → E' l = E l) (hb : ∀ l : Lab, l.1 ≠ 0 → l.2.1 = i → B' l = B l) : Fdn E' B' i d pk rv AB := by
  refine ⟨?_, fun k hk => (h.blk k hk).all he hb⟩
  obtain ⟨bl, cap, lb, h1, h2, h3, h4, h5⟩ := h.fn
  have e1 : E' bl = E bl := by rcases h2 with rfl | rfl <;> exact he _ (by simp) rfl
  have e2 : B' bl = B bl := by rcases h2 with rfl | rfl <;> exact hb _ (by simp) rfl
  refine ⟨bl, cap, lb, by rw [e1]; exact h1.all hb, h2, e2.trans h3, h4, fun k u hk hu => ?_⟩
  rw [he _ (by simp) rfl]; exact h5 k u hk hu
theorem Je.fdn (h : Je w0 w E0 B0 E B i d pk rv AB cap) : Fdn E B i d pk rv AB := by
  refine ⟨⟨(7, i, 0, 0), cap, _, h.jn.fn, .inr rfl, h.b7, by show _ ≤ cap * 1; have := h.c7; omega, fun k u hk hu => ?_⟩, fun k hk => h.blk hk⟩
  rw [h.jn.he (10, i, gd AB d.n k, 0) (by simp)]
  exact hu (by omega)
theorem gm_off {ab : Nat → Bool} (h : ∀ j, ab j = false) (x : Nat) : gm ab x = x := by
  induction x with
  | zero => rfl
  | succ x ih => rw [gm_no (h x), ih]
theorem en_off {ab : Nat → Bool} (h : ∀ j, ab j = false) (x j : Nat) : en ab x j = j := by
  induction x with
  | zero => rfl
  | succ x ih => rw [en_no (fun hh => by rw [h x] at hh; cases hh.1), ih]
theorem gd_off {ab : Nat → Bool} (h : ∀ j, ab j = false) {x k : Nat} (hk : k < x) : gd ab x k = k := by
  have h1 := gm_gd (ab := ab) (x := x) (k := k) (by rw [gm_off h]; exact hk)
  rwa [gm_off h] at h1
theorem abs_off (tg : Nat → Option Nat) (n j : Nat) : abs false tg n j = false := by simp [abs]
theorem Fok.fdn (h : Fok E B i d pk rv) (hA : ∀ j, AB j = false) : Fdn E B i d pk rv AB := by
  have hm := gm_off hA d.n
  refine ⟨⟨(2, i, 0, 0), d.n, _, by rw [hm]; exact h.fn, .inl rfl, h.bs, by rw [hm]; exact Nat.le_refl _, fun k u hk hu => ?_⟩, fun k hk => ?_⟩
  · rw [hm] at hk
    rw [gd_off hA hk]; exact hu
  · rw [hm] at hk
    rw [gd_off hA hk, en_off hA]
    exact h.blk k hk
end
/-- What Program runs on: N functions, and the program's struct. -/
structure Pin where
  N : Nat
  d : Nat → Fd
  pk : Nat → ByteArray
  rs : Nat → Bool
def Pin.rv (P : Pin) (E : Lab → Nat) (i : Nat) : Value := if P.rs i = true then .pointer (some ⟨E (6, i, 0, 0), 0, none⟩) else .pointer none
def Pin.mt (P : Pin) (want : ByteArray) (i : Nat) : Bool := ((P.pk i).toList == want.toList) && !P.rs i
def Pin.ab (P : Pin) (want : ByteArray) (i : Nat) : Nat → Bool := abs (P.mt want i) (P.d i).tg (P.d i).n
structure Pst (B : Lab → Option Lb) (E : Lab → Nat) (P : Pin) (al : ByteArray) : Prop where
  mem : ∃ np D v cap, 7 < np ∧ B (0, 2, 0, 0) = some (vals 34 np D) ∧ D 1 = v ∧ D 7 = .string al ∧ Slg E B (0, 7, 0, 0) 56 P.N cap (fun i u => u = .pointer (some ⟨E (1, i, 0, 0), 0, none⟩)) v
/-- .. the first k of them done. -/
structure Pgs (w0 w : World) (E0 : Lab → Nat) (B0 : Lab → Option Lb) (E : Lab → Nat) (B : Lab → Option Lb) (P : Pin) (want : ByteArray) (k : Nat) : Prop where
  sg : Sg w0 w E B
  he : ∀ l : Lab, ¬ (l.1 = 7 ∨ l.1 = 8 ∨ l.1 = 11) → E l = E0 l
  hb : ∀ l : Lab, ¬ (l.1 = 1 ∨ l.1 = 7 ∨ l.1 = 8 ∨ l.1 = 10 ∨ l.1 = 11) → B l = B0 l
  dn : ∀ i, i < k → i < P.N → Fdn E B i (P.d i) (P.pk i) (P.rv E0 i) (P.ab want i)
  ok : ∀ i, k ≤ i → i < P.N → Fok E B i (P.d i) (P.pk i) (P.rv E0 i)
set_option maxHeartbeats 4000000 in
set_option maxRecDepth 100000 in
theorem p4t {F : (Nat → Value) → Act} (hF : Fr 35 F) {w0 w : World} {E0 : Lab → Nat} {B0 : Lab → Option Lb} {P : Pin} {al want : ByteArray} {f : Nat → Value} {R : Ending → World → Prop} (hd : ∀ i, i < P.N → Fdk (P.d i)) (hN : P.N ≤ 4096)
    (hp : Pst B0 E0 P al) (hg : Pgs w0 w E0 B0 E0 B0 P want 0)
    (h0 : f 0 = .pointer (some ⟨E0 (0, 2, 0, 0), 0, none⟩)) (h1 : f 1 = .string want) (hR : ∀ w' E B, Pgs w0 w' E0 B0 E B P want P.N → R (.returned (.tuple #[])) w') :
    (Ybaz.f4.body.getD .skip).wp Ybaz.prog (bodyPost Ybaz.prog Ybaz.f4 R) (F f) w := by
  conv => arg 2; whnf
  have hget := hF.get
  have hmk := hF.up
  have HR : Hid (∀ w' E B, Pgs w0 w' E0 B0 E B P want P.N → R (.returned (.tuple #[])) w') := hR
  have HD : Hid (∀ i, i < P.N → Fdk (P.d i)) := hd
  have HP : Hid (Pst B0 E0 P al) := hp
  have HG : Hid (Pgs w0 w E0 B0 E0 B0 P want 0) := hg
  obtain ⟨np, D, v, cap, hnp, hpb, hp1, hp7, hpS⟩ := hp.mem
  obtain ⟨va, vc, rfl, hvc, hva⟩ := hpS.form
  have HPS : Hid (Slg E0 B0 (0, 7, 0, 0) 56 P.N cap (fun i u => u = .pointer (some ⟨E0 (1, i, 0, 0), 0, none⟩)) (.slice va P.N vc)) := hpS
  have HPB : Hid (B0 (0, 2, 0, 0) = some (vals 34 np D)) := hpb
  have kp1 := hg.sg.val hpb (i := 1) (by omega)
  rw [hp1] at kp1
  clear hR hd hp hg hpS hpb
  refine wp_seq_hid (fun K HK => ?_)
  go_wp2
  refine HK.out _ _ ?_
  clear HK kp1
  refine wp_block ?_
  refine wp_loop_ghost_k (fun g a w => ∃ y, a = F y ∧ ∃ k E B, g + k = P.N ∧ Pgs w0 w E0 B0 E B P want k ∧ y 0 = .pointer (some ⟨E0 (0, 2, 0, 0), 0, none⟩) ∧ y 1 = .string want ∧ y 9 = .slice va P.N vc ∧ y 10 = .int .i64 (P.N : Nat) ∧ y 11 = .int .i64 (k : Nat)) P.N
    ⟨_, rfl, 0, E0, B0, rfl, HG.out, by simp [fup_at, h0], by simp [fup_at, h1], by simp [fup_at], by simp [fup_at], by simp [fup_at]⟩ ?_
  clear HG h0 h1 f
  rintro g _ w1 ⟨y, rfl, k, E, B, hg, hG, y0, y1, y9, y10, y11⟩ J K3 hJk hK3
  have HJk : Hid (∀ g a w, (∃ y, a = F y ∧ ∃ k E B, g + k = P.N ∧ Pgs w0 w E0 B0 E B P want k ∧ y 0 = .pointer (some ⟨E0 (0, 2, 0, 0), 0, none⟩) ∧ y 1 = .string want ∧ y 9 = .slice va P.N vc ∧ y 10 = .int .i64 (P.N : Nat) ∧ y 11 = .int .i64 (k : Nat)) → J g a w) := hJk
  have HK3 : Hid (∀ a' w', Handed J g a' w' → K3 a' w') := hK3
  have HG : Hid (Pgs w0 w1 E0 B0 E B P want k) := hG
  clear hJk hK3 hG
  refine wp_seq_hid (fun K4 HK4 => ?_)
  go_wp2
  refine HK4.out _ _ ?_
  clear HK4
  refine wp_seq_hid (fun K4 HK4 => ?_)
  refine hF.cond (by omega) rfl (fun hh => ?_) (fun hh => ?_)
  · have hk : k < P.N := by simpa using hh
    clear hh
    go_wp2
    refine HK4.out _ _ ?_
    clear HK4
    obtain rfl := hva (by omega)
    have ho := HG.out.ok k (Nat.le_refl _) hk
    obtain ⟨nf, Df, hnf, hfb, hf1, hf5, _⟩ := ho.fn.mem
    have e1 : E (1, k, 0, 0) = E0 (1, k, 0, 0) := HG.out.he _ (by simp)
    have kf1 := HG.out.sg.val hfb (i := 1) (by omega)
    have kf5 := HG.out.sg.val hfb (i := 5) (by omega)
    rw [e1, hf1] at kf1
    rw [e1, hf5] at kf5
    have e7 : E (0, 7, 0, 0) = E0 (0, 7, 0, 0) := HG.out.he _ (by simp)
    have kr : w1.cell? ⟨E0 (0, 7, 0, 0), k, none⟩ = some (.pointer (some ⟨E0 (1, k, 0, 0), 0, none⟩)) := by
      have h1 : Slg E B (0, 7, 0, 0) 56 P.N cap (fun i u => u = .pointer (some ⟨E0 (1, i, 0, 0), 0, none⟩)) (.slice (some ⟨E0 (0, 7, 0, 0), 0, none⟩) P.N vc) := HPS.out.congr e7 (HG.out.hb _ (by simp))
      obtain ⟨u, h2, h3, _⟩ := h1.cell HG.out.sg hk
      rw [← e7, h2, h3]
    have kp7 : w1.cell? ⟨E0 (0, 2, 0, 0), 7, none⟩ = some (.string al) := by
      have := HG.out.sg.val ((HG.out.hb (0, 2, 0, 0) (by simp)).trans HPB.out) (i := 7) (by omega)
      rw [hp7, HG.out.he (0, 2, 0, 0) (by simp)] at this
      exact this
    clear hfb hf1 hf5 ho
    refine wp_seq_hid (fun K4 HK4 => ?_)
    refine wp_block ?_
    refine wp_seq_hid (fun K5 HK5 => ?_)
    go_wp2
    refine HK5.out _ _ ?_
    clear HK5 kr
    have HEND : Hid (∀ z w' E' B', Pgs w0 w' E0 B0 E' B' P want (k + 1) → z 0 = .pointer (some ⟨E0 (0, 2, 0, 0), 0, none⟩) → z 1 = .string want → z 9 = .slice (some ⟨E0 (0, 7, 0, 0), 0, none⟩) P.N vc → z 10 = .int .i64 (P.N : Nat) → z 11 = .int .i64 (k : Nat) → K4 (F z) w') := by
      intro z w' E' B' hG' z0 z1 z9 z10 z11
      refine HK4.out _ _ ?_
      clear HK4
      go_wp2
      refine HK3.out _ _ ⟨g - 1, by omega, HJk.out _ _ _ ⟨_, rfl, k + 1, E', B', by omega, hG', by simp [fup_at, z0], by simp [fup_at, z1], by simp [fup_at, z9], by simp [fup_at, z10], by simp [fup_at]⟩⟩
    have HNO : Hid (P.mt want k = false → Pgs w0 w1 E0 B0 E B P want (k + 1)) := fun hm => by
      refine ⟨HG.out.sg, HG.out.he, HG.out.hb, fun i hi hiN => ?_, fun i hi hiN => HG.out.ok i (by omega) hiN⟩
      by_cases e : i = k
      · subst e
        refine (HG.out.ok i (Nat.le_refl _) hk).fdn (fun j => ?_)
        unfold Pin.ab
        rw [hm]; exact abs_off _ _ _
      · exact HG.out.dn i (by omega) hiN
    cases c1 : (P.pk k).toList == want.toList with
    | true =>
      by_cases c2 : P.rs k = true
      · have kf5' : w1.cell? ⟨E0 (1, k, 0, 0), 5, none⟩ = some (.pointer (some ⟨E0 (6, k, 0, 0), 0, none⟩)) := by rw [kf5]; unfold Pin.rv; rw [if_pos c2]
        clear kf5
        go_wp2
        refine hF.cond (by omega) rfl (fun hh => by simp at hh) (fun hh => ?_)
        clear hh
        go_wp2
        exact HEND.out _ _ E B (HNO.out (by unfold Pin.mt; rw [c2]; simp)) (by simp [fup_at, y0]) (by simp [fup_at, y1]) (by simp [fup_at, y9]) (by simp [fup_at, y10]) (by simp [fup_at, y11])
      · have kf5' : w1.cell? ⟨E0 (1, k, 0, 0), 5, none⟩ = some (.pointer none) := by rw [kf5]; unfold Pin.rv; rw [if_neg c2]
        clear kf5
        have hmt : P.mt want k = true := by
          unfold Pin.mt
          rw [c1]
          simpa using c2
        have ho := HG.out.ok k (Nat.le_refl _) hk
        have hrv : P.rv E0 k = .pointer none := by unfold Pin.rv; rw [if_neg c2]
        have hfn := ho.fn
        rw [hrv] at hfn
        have hCall := fn_any (al := al) (HD.out k hk) HG.out.sg ho.fx ho.bs ho.blk hfn
        rw [e1] at hCall
        clear hfn ho
        go_wp2
        refine hF.cond (by omega) rfl (fun hh => ?_) (fun hh => by simp at hh)
        clear hh
        go_wp2_with (go_at_call 7; refine Calls.mono hCall ?_; rintro _ w2 ⟨rfl, E', B', cap', hje⟩; dsimp only)
        refine HEND.out _ w2 E' B' ?_ (by simp [fup_at, y0]) (by simp [fup_at, y1]) (by simp [fup_at, y9]) (by simp [fup_at, y10]) (by simp [fup_at, y11])
        have hkeepE : ∀ i, i ≠ k → ∀ l : Lab, l.1 ≠ 0 → l.2.1 = i → E' l = E l := fun i hi l _ hl => hje.jn.he l (fun h => hi (hl.symm.trans h.1))
        have hkeepB : ∀ i, i ≠ k → ∀ l : Lab, l.1 ≠ 0 → l.2.1 = i → B' l = B l := fun i hi l _ hl => hje.jn.hb l (fun h => hi (hl.symm.trans h.1))
        refine ⟨hje.jn.sg, fun l hl => ?_, fun l hl => ?_, fun i hi hiN => ?_, fun i hi hiN => ?_⟩
        · rw [hje.jn.he l (fun h => hl h.2)]; exact HG.out.he l hl
        · rw [hje.jn.hb l (fun h => hl h.2)]; exact HG.out.hb l hl
        · by_cases e : i = k
          · subst e
            rw [hrv]
            unfold Pin.ab
            rw [hmt]
            exact hje.fdn
          · exact (HG.out.dn i (by omega) hiN).all (hkeepE i e) (hkeepB i e)
        · exact (HG.out.ok i (by omega) hiN).all (hkeepE i (by omega)) (hkeepB i (by omega))
    | false =>
      go_wp2
      refine hF.cond (by omega) rfl (fun hh => by simp at hh) (fun hh => ?_)
      clear hh
      go_wp2
      exact HEND.out _ _ E B (HNO.out (by unfold Pin.mt; rw [c1]; rfl)) (by simp [fup_at, y0]) (by simp [fup_at, y1]) (by simp [fup_at, y9]) (by simp [fup_at, y10]) (by simp [fup_at, y11])
  · have hk : k = P.N := by
      have : ¬ k < P.N := by simpa using hh
      omega
    subst hk
    clear hh HK3 HJk HK4
    go_wp2
    refine bodyPost_end (results_none rfl _ _ _) (hF.df _) (HR.out w1 E B HG.out)
theorem prog_any {w0 w : World} {E0 : Lab → Nat} {B0 : Lab → Option Lb} {P : Pin} {al want : ByteArray} (hd : ∀ i, i < P.N → Fdk (P.d i)) (hN : P.N ≤ 4096) (hp : Pst B0 E0 P al) (hg : Pgs w0 w E0 B0 E0 B0 P want 0) :
    Calls Ybaz.prog 4 #[.pointer (some ⟨E0 (0, 2, 0, 0), 0, none⟩), .string want] w fun e w' => e = .returned (.tuple #[]) ∧ ∃ E B, Pgs w0 w' E0 B0 E B P want P.N := by
  refine calls_of_wp Ybaz.func4 rfl ?_
  rw [(frm_fr 35).of (Act.mk _ _) (by simp [Ybaz.ntmps4]) rfl]
  exact p4t (frm_fr 35) hd hN hp hg (by simp) (by simp) (fun w' E B h => ⟨rfl, E, B, h⟩)
end Go.Proofs.YbulkexmzaGreat
