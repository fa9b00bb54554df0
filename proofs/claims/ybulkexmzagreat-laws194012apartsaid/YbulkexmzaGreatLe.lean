/-
  Liveness (19): its state behind newDominance; region 65 (a sort).
-/
import Derived.Test.YbulkexmzaGreatLd
namespace Go.Proofs.YbulkexmzaGreat
open Go.RowKit

/-- Registers: 0 the Live, 1 the box of l, 2 predFrom, 3 preds; dp the dominance, gp its pre. -/
structure Lw (w0 w : World) (E : Nat → Nat) (B : Nat → Lb) (n L : Nat) (pf : Nat → Nat) (D : Nat → Value) (dp gp : Nat) : Prop where
  st : St w0 w 4 E B
  b0 : B 0 = vals 122 30 D
  b1 : B 1 = bx 74 (.pointer (some ⟨E 0, 0, none⟩))
  b2 : B 2 = arr (n + 1) (fun b => ((pf b : Nat) : Int))
  b3 : B 3 = ⟨3, L, qn n⟩
  d3 : D 3 = .slice (some ⟨E 2, 0, none⟩) (n + 1) (n + 1)
  d4 : D 4 = .slice (some ⟨E 3, 0, none⟩) L L
  d7 : D 7 = .pointer (some ⟨dp, 0, none⟩)
  kp : w.cell? ⟨dp, 3, none⟩ = some (.slice (some ⟨gp, 0, none⟩) (n + 1) (n + 1))
  pre : RowOk w gp (ints (n + 1) (fun _ => 0) (fun _ => 1000000000000))
  ne : E 3 ≠ dp ∧ E 3 ≠ gp
  n1 : 1 ≤ n
theorem Lw.drew {w0 w : World} {E : Nat → Nat} {B : Nat → Lb} {n L dp gp : Nat} {pf : Nat → Nat} {D : Nat → Value} (h : Lw w0 w E B n L pf D dp gp) : Lw w0 w.drew E B n L pf D dp gp := ⟨h.st.drew, h.b0, h.b1, h.b2, h.b3, h.d3, h.d4, h.d7, h.kp, h.pre.of_block rfl, h.ne, h.n1⟩
theorem Lw.sort {w0 w : World} {E : Nat → Nat} {B : Nat → Lb} {n L dp gp off cnt cap : Nat} {pf : Nat → Nat} {D : Nat → Value} {ad : Option Addr} (h : Lw w0 w E B n L pf D dp gp) (hL : L ≤ 100000000) (ho : off + cnt ≤ L) (hc : cnt ≤ L) (had : 0 < cnt → ad = some ⟨E 3, off, none⟩) :
    Calls Ybaz.prog 39 #[.slice ad cnt cap, .func (.func 40) #[] #[.pointer (some ⟨E 1, 0, none⟩)]] w fun e w' => e = .returned (.tuple #[]) ∧ Lw w0 w' E B n L pf D dp gp := by
  have k1 := h.st.box (k := 1) (by omega) h.b1
  have k7 := h.st.valAt (k := 0) (by omega) h.b0 (i := 7) (by omega)
  rw [h.d7] at k7
  have hr := h.st.row 3 (by omega)
  rw [h.b3] at hr
  have ne : ∀ k, k < 4 → k ≠ 3 → E k ≠ E 3 := fun k hk hne e => hne (h.st.inj k 3 hk (by omega) e)
  refine (sort_any (off := off) (cnt := cnt) h.n1 k1 k7 h.kp h.pre hr ho (by omega) had (ne 1 (by omega) (by omega)) (ne 0 (by omega) (by omega)) (Ne.symm h.ne.1) (Ne.symm h.ne.2)).mono ?_
  rintro e w' ⟨rfl, hb, hrow, hs⟩
  refine ⟨rfl, ⟨hs w0 h.st.since (h.st.base 3 (by omega)), fun k hk => ?_, h.st.base, h.st.inj⟩, h.b0, h.b1, h.b2, h.b3, h.d3, h.d4, h.d7, ?_, h.pre.of_block (hb _ h.pre.lt (Ne.symm h.ne.2)), h.ne, h.n1⟩
  · by_cases e : k = 3
    · subst e; rw [h.b3]; exact hrow
    · exact (h.st.row k hk).of_block (hb _ (h.st.row k hk).lt (ne k hk e))
  · have := hb dp (World.block_lt_of_cell? _ _ h.kp) (Ne.symm h.ne.1)
    rw [← h.kp]
    unfold World.cell?
    simp only [this]
set_option maxHeartbeats 4000000 in
set_option maxRecDepth 100000 in
theorem l65 {F : (Nat → Value) → Act} (hF : Fr 371 F) {w0 w : World} {E : Nat → Nat} {B : Nat → Lb} {n L i dp gp : Nat} {pf : Nat → Nat} {D f : Nat → Value} {Q : Exit → Act → World → Prop}
    (hW : Lw w0 w E B n L pf D dp gp) (hP : Pf n L pf) (hL : L ≤ 100000000) (hn : n ≤ 100000) (hi : i < n) (h7 : f 7 = .pointer (some ⟨E 1, 0, none⟩)) (h27 : f 27 = .int .i64 (i : Nat))
    (hQ : ∀ x w', (∀ s, s < 371 → wrF (opsL (Ybaz.f19.body.bind (regAt 65))) 0 s = none → x s = f s) → Lw w0 w' E B n L pf D dp gp → Q .normal (F x) w') :
    ((Ybaz.f19.body.bind (regAt 65)).getD .skip).wp Ybaz.prog Q (F f) w := by
  conv => arg 2; whnf
  have k1 := hW.st.box (k := 1) (by omega) hW.b1
  have k4 := hW.st.valAt (k := 0) (by omega) hW.b0 (i := 4) (by omega)
  have k3 := hW.st.valAt (k := 0) (by omega) hW.b0 (i := 3) (by omega)
  rw [hW.d4] at k4
  rw [hW.d3] at k3
  have ka := hW.st.arr (k := 2) (by omega) hW.b2 (i := i) (by omega)
  have kb := hW.st.arr (k := 2) (by omega) hW.b2 (i := i + 1) (by omega)
  have hpq := hP.mono i hi
  have hqL := hP.lim (i + 1) (by omega)
  obtain ⟨p, hp'⟩ : ∃ p, p = pf i := ⟨_, rfl⟩
  obtain ⟨q, hq'⟩ : ∃ q, q = pf (i + 1) := ⟨_, rfl⟩
  rw [← hp'] at ka hpq
  rw [← hq'] at kb hpq hqL
  have HPQ : Hid (p = pf i ∧ q = pf (i + 1)) := ⟨hp', hq'⟩
  have hwr : IntKind.i64.wrap ((i : Int) + 1) = (i : Int) + 1 := by rw [IntKind.wrap_i64]; omega
  have hb1n : ¬ ((i : Int) + 1 < 0) := by omega
  have hb1p : (0 : Int) ≤ (i : Int) + 1 := by omega
  have hb1t : ((i : Int) + 1).toNat = i + 1 := by omega
  have hbz : (i : Int) < (n : Int) + 1 := by omega
  have hbzz : (i : Int) < (n : Int) := by omega
  have HW : Hid (Lw w0 w E B n L pf D dp gp) := hW
  have HQ : Hid (∀ x w', (∀ s, s < 371 → wrF (opsL (Ybaz.f19.body.bind (regAt 65))) 0 s = none → x s = f s) → Lw w0 w' E B n L pf D dp gp → Q .normal (F x) w') := hQ
  clear hW hQ hp' hq'
  refine region_frm hF (γ := Unit) (fun op9 g => match op9 with
    | 0 => .pointer (some ⟨E 0, 0, none⟩)
    | 1 => .pointer (some ⟨E 0, 0, none⟩)
    | 2 => .pointer (some ⟨E 0, 4, none⟩)
    | 3 => .slice (some ⟨E 3, 0, none⟩) L L
    | 4 => .pointer (some ⟨E 0, 0, none⟩)
    | 5 => .pointer (some ⟨E 0, 0, none⟩)
    | 6 => .pointer (some ⟨E 0, 3, none⟩)
    | 7 => .slice (some ⟨E 2, 0, none⟩) (n + 1) (n + 1)
    | 8 => .int .i64 (i : Nat)
    | 9 => .pointer (some ⟨E 2, i, none⟩)
    | 10 => .int .i64 (p : Nat)
    | 11 => .pointer (some ⟨E 0, 0, none⟩)
    | 12 => .pointer (some ⟨E 0, 0, none⟩)
    | 13 => .pointer (some ⟨E 0, 3, none⟩)
    | 14 => .slice (some ⟨E 2, 0, none⟩) (n + 1) (n + 1)
    | 15 => .int .i64 (i : Nat)
    | 16 => .int .i64 ((i : Int) + 1)
    | 17 => .pointer (some ⟨E 2, i + 1, none⟩)
    | 18 => .int .i64 (q : Nat)
    | 19 => .slice (if L = p then some ⟨E 3, 0, none⟩ else some ⟨E 3, p, none⟩) (q - p) (L - p)
    | 20 => .func (.func 40) #[] #[.pointer (some ⟨E 1, 0, none⟩)]
    | 21 => .tuple #[]
    | _ => undef) (fun l _ w' => (l 21 = false → w' = w.drew) ∧ (l 21 = true → Lw w0 w' E B n L pf D dp gp)) () (by kernel_rfl) (by kernel_rfl) ⟨fun _ => rfl, fun h => (by cases h)⟩ ?_ ?_
  · refine ⟨?_, ?_, ?_, ?_, ?_, ?_, ?_, ?_, ?_, ?_, ?_, ?_, ?_, ?_, ?_, ?_, ?_, ?_, ?_, ?_, ?_, ?_, trivial⟩
    · intro l g a w' K hp hc hl hG hM hK
      have e7 : a.eval (.tmp 7) = .pointer (some ⟨E 1, 0, none⟩) := (hG.oldF hF 7 (by kernel_rfl) (by omega)).trans h7
      have h9l : l 21 = false := hc.not 21 22 hl (by kernel_rfl)
      obtain rfl := hM.1 h9l
      have fin := hK g _ (fun _ _ => rfl) ⟨fun _ => rfl, fun h => absurd h (by rw [upd_other _ _ (by omega), h9l]; decide)⟩
      clear hK hc hp hG hM h9l
      unfold Oper.wp; generalize a.eval = ρ at *; go_simp; exact fin
    · intro l g a w' K hp hc hl hG hM hK
      have e347 : a.eval (.tmp 347) = .pointer (some ⟨E 0, 0, none⟩) := hG.of 347 0 (by kernel_rfl) (preAt hc 22 _ hp (by kernel_rfl))
      have h9l : l 21 = false := hc.not 21 22 hl (by kernel_rfl)
      obtain rfl := hM.1 h9l
      have fin := hK g _ (fun _ _ => rfl) ⟨fun _ => rfl, fun h => absurd h (by rw [upd_other _ _ (by omega), h9l]; decide)⟩
      clear hK hc hp hG hM h9l
      unfold Oper.wp; generalize a.eval = ρ at *; go_simp; exact fin
    · intro l g a w' K hp hc hl hG hM hK
      have e348 : a.eval (.tmp 348) = .pointer (some ⟨E 0, 0, none⟩) := hG.of 348 1 (by kernel_rfl) (preAt hc 22 _ hp (by kernel_rfl))
      have h9l : l 21 = false := hc.not 21 22 hl (by kernel_rfl)
      obtain rfl := hM.1 h9l
      have fin := hK g _ (fun _ _ => rfl) ⟨fun _ => rfl, fun h => absurd h (by rw [upd_other _ _ (by omega), h9l]; decide)⟩
      clear hK hc hp hG hM h9l
      unfold Oper.wp; generalize a.eval = ρ at *; go_simp; exact fin
    · intro l g a w' K hp hc hl hG hM hK
      have e349 : a.eval (.tmp 349) = .pointer (some ⟨E 0, 4, none⟩) := hG.of 349 2 (by kernel_rfl) (preAt hc 22 _ hp (by kernel_rfl))
      have h9l : l 21 = false := hc.not 21 22 hl (by kernel_rfl)
      obtain rfl := hM.1 h9l
      have fin := hK g _ (fun _ _ => rfl) ⟨fun _ => rfl, fun h => absurd h (by rw [upd_other _ _ (by omega), h9l]; decide)⟩
      clear hK hc hp hG hM h9l
      unfold Oper.wp; generalize a.eval = ρ at *; go_simp; exact fin
    · intro l g a w' K hp hc hl hG hM hK
      have e7 : a.eval (.tmp 7) = .pointer (some ⟨E 1, 0, none⟩) := (hG.oldF hF 7 (by kernel_rfl) (by omega)).trans h7
      have h9l : l 21 = false := hc.not 21 22 hl (by kernel_rfl)
      obtain rfl := hM.1 h9l
      have fin := hK g _ (fun _ _ => rfl) ⟨fun _ => rfl, fun h => absurd h (by rw [upd_other _ _ (by omega), h9l]; decide)⟩
      clear hK hc hp hG hM h9l
      unfold Oper.wp; generalize a.eval = ρ at *; go_simp; exact fin
    · intro l g a w' K hp hc hl hG hM hK
      have e351 : a.eval (.tmp 351) = .pointer (some ⟨E 0, 0, none⟩) := hG.of 351 4 (by kernel_rfl) (preAt hc 22 _ hp (by kernel_rfl))
      have h9l : l 21 = false := hc.not 21 22 hl (by kernel_rfl)
      obtain rfl := hM.1 h9l
      have fin := hK g _ (fun _ _ => rfl) ⟨fun _ => rfl, fun h => absurd h (by rw [upd_other _ _ (by omega), h9l]; decide)⟩
      clear hK hc hp hG hM h9l
      unfold Oper.wp; generalize a.eval = ρ at *; go_simp; exact fin
    · intro l g a w' K hp hc hl hG hM hK
      have e352 : a.eval (.tmp 352) = .pointer (some ⟨E 0, 0, none⟩) := hG.of 352 5 (by kernel_rfl) (preAt hc 22 _ hp (by kernel_rfl))
      have h9l : l 21 = false := hc.not 21 22 hl (by kernel_rfl)
      obtain rfl := hM.1 h9l
      have fin := hK g _ (fun _ _ => rfl) ⟨fun _ => rfl, fun h => absurd h (by rw [upd_other _ _ (by omega), h9l]; decide)⟩
      clear hK hc hp hG hM h9l
      unfold Oper.wp; generalize a.eval = ρ at *; go_simp; exact fin
    · intro l g a w' K hp hc hl hG hM hK
      have e353 : a.eval (.tmp 353) = .pointer (some ⟨E 0, 3, none⟩) := hG.of 353 6 (by kernel_rfl) (preAt hc 22 _ hp (by kernel_rfl))
      have h9l : l 21 = false := hc.not 21 22 hl (by kernel_rfl)
      obtain rfl := hM.1 h9l
      have fin := hK g _ (fun _ _ => rfl) ⟨fun _ => rfl, fun h => absurd h (by rw [upd_other _ _ (by omega), h9l]; decide)⟩
      clear hK hc hp hG hM h9l
      unfold Oper.wp; generalize a.eval = ρ at *; go_simp; exact fin
    · intro l g a w' K hp hc hl hG hM hK
      have e27 : a.eval (.tmp 27) = .int .i64 (i : Nat) := (hG.oldF hF 27 (by kernel_rfl) (by omega)).trans h27
      have h9l : l 21 = false := hc.not 21 22 hl (by kernel_rfl)
      obtain rfl := hM.1 h9l
      have fin := hK g _ (fun _ _ => rfl) ⟨fun _ => rfl, fun h => absurd h (by rw [upd_other _ _ (by omega), h9l]; decide)⟩
      clear hK hc hp hG hM h9l
      unfold Oper.wp; generalize a.eval = ρ at *; go_simp; exact fin
    · intro l g a w' K hp hc hl hG hM hK
      have e354 : a.eval (.tmp 354) = .slice (some ⟨E 2, 0, none⟩) (n + 1) (n + 1) := hG.of 354 7 (by kernel_rfl) (preAt hc 22 _ hp (by kernel_rfl))
      have e355 : a.eval (.tmp 355) = .int .i64 (i : Nat) := hG.of 355 8 (by kernel_rfl) (preAt hc 22 _ hp (by kernel_rfl))
      have h9l : l 21 = false := hc.not 21 22 hl (by kernel_rfl)
      obtain rfl := hM.1 h9l
      have fin := hK g _ (fun _ _ => rfl) ⟨fun _ => rfl, fun h => absurd h (by rw [upd_other _ _ (by omega), h9l]; decide)⟩
      clear hK hc hp hG hM h9l
      unfold Oper.wp; generalize a.eval = ρ at *; go_simp; exact fin
    · intro l g a w' K hp hc hl hG hM hK
      have e356 : a.eval (.tmp 356) = .pointer (some ⟨E 2, i, none⟩) := hG.of 356 9 (by kernel_rfl) (preAt hc 22 _ hp (by kernel_rfl))
      have h9l : l 21 = false := hc.not 21 22 hl (by kernel_rfl)
      obtain rfl := hM.1 h9l
      have fin := hK g _ (fun _ _ => rfl) ⟨fun _ => rfl, fun h => absurd h (by rw [upd_other _ _ (by omega), h9l]; decide)⟩
      clear hK hc hp hG hM h9l
      unfold Oper.wp; generalize a.eval = ρ at *; go_simp; exact fin
    · intro l g a w' K hp hc hl hG hM hK
      have e7 : a.eval (.tmp 7) = .pointer (some ⟨E 1, 0, none⟩) := (hG.oldF hF 7 (by kernel_rfl) (by omega)).trans h7
      have h9l : l 21 = false := hc.not 21 22 hl (by kernel_rfl)
      obtain rfl := hM.1 h9l
      have fin := hK g _ (fun _ _ => rfl) ⟨fun _ => rfl, fun h => absurd h (by rw [upd_other _ _ (by omega), h9l]; decide)⟩
      clear hK hc hp hG hM h9l
      unfold Oper.wp; generalize a.eval = ρ at *; go_simp; exact fin
    · intro l g a w' K hp hc hl hG hM hK
      have e358 : a.eval (.tmp 358) = .pointer (some ⟨E 0, 0, none⟩) := hG.of 358 11 (by kernel_rfl) (preAt hc 22 _ hp (by kernel_rfl))
      have h9l : l 21 = false := hc.not 21 22 hl (by kernel_rfl)
      obtain rfl := hM.1 h9l
      have fin := hK g _ (fun _ _ => rfl) ⟨fun _ => rfl, fun h => absurd h (by rw [upd_other _ _ (by omega), h9l]; decide)⟩
      clear hK hc hp hG hM h9l
      unfold Oper.wp; generalize a.eval = ρ at *; go_simp; exact fin
    · intro l g a w' K hp hc hl hG hM hK
      have e359 : a.eval (.tmp 359) = .pointer (some ⟨E 0, 0, none⟩) := hG.of 359 12 (by kernel_rfl) (preAt hc 22 _ hp (by kernel_rfl))
      have h9l : l 21 = false := hc.not 21 22 hl (by kernel_rfl)
      obtain rfl := hM.1 h9l
      have fin := hK g _ (fun _ _ => rfl) ⟨fun _ => rfl, fun h => absurd h (by rw [upd_other _ _ (by omega), h9l]; decide)⟩
      clear hK hc hp hG hM h9l
      unfold Oper.wp; generalize a.eval = ρ at *; go_simp; exact fin
    · intro l g a w' K hp hc hl hG hM hK
      have e360 : a.eval (.tmp 360) = .pointer (some ⟨E 0, 3, none⟩) := hG.of 360 13 (by kernel_rfl) (preAt hc 22 _ hp (by kernel_rfl))
      have h9l : l 21 = false := hc.not 21 22 hl (by kernel_rfl)
      obtain rfl := hM.1 h9l
      have fin := hK g _ (fun _ _ => rfl) ⟨fun _ => rfl, fun h => absurd h (by rw [upd_other _ _ (by omega), h9l]; decide)⟩
      clear hK hc hp hG hM h9l
      unfold Oper.wp; generalize a.eval = ρ at *; go_simp; exact fin
    · intro l g a w' K hp hc hl hG hM hK
      have e27 : a.eval (.tmp 27) = .int .i64 (i : Nat) := (hG.oldF hF 27 (by kernel_rfl) (by omega)).trans h27
      have h9l : l 21 = false := hc.not 21 22 hl (by kernel_rfl)
      obtain rfl := hM.1 h9l
      have fin := hK g _ (fun _ _ => rfl) ⟨fun _ => rfl, fun h => absurd h (by rw [upd_other _ _ (by omega), h9l]; decide)⟩
      clear hK hc hp hG hM h9l
      unfold Oper.wp; generalize a.eval = ρ at *; go_simp; exact fin
    · intro l g a w' K hp hc hl hG hM hK
      have e362 : a.eval (.tmp 362) = .int .i64 (i : Nat) := hG.of 362 15 (by kernel_rfl) (preAt hc 22 _ hp (by kernel_rfl))
      have ec : ∀ v, a.eval (.const v) = v := fun _ => rfl
      have h9l : l 21 = false := hc.not 21 22 hl (by kernel_rfl)
      obtain rfl := hM.1 h9l
      have fin := hK g _ (fun _ _ => rfl) ⟨fun _ => rfl, fun h => absurd h (by rw [upd_other _ _ (by omega), h9l]; decide)⟩
      clear hK hc hp hG hM h9l
      unfold Oper.wp; generalize a.eval = ρ at *; go_simp; exact fin
    · intro l g a w' K hp hc hl hG hM hK
      have e361 : a.eval (.tmp 361) = .slice (some ⟨E 2, 0, none⟩) (n + 1) (n + 1) := hG.of 361 14 (by kernel_rfl) (preAt hc 22 _ hp (by kernel_rfl))
      have e363 : a.eval (.tmp 363) = .int .i64 ((i : Int) + 1) := hG.of 363 16 (by kernel_rfl) (preAt hc 22 _ hp (by kernel_rfl))
      have h9l : l 21 = false := hc.not 21 22 hl (by kernel_rfl)
      obtain rfl := hM.1 h9l
      have fin := hK g _ (fun _ _ => rfl) ⟨fun _ => rfl, fun h => absurd h (by rw [upd_other _ _ (by omega), h9l]; decide)⟩
      clear hK hc hp hG hM h9l
      unfold Oper.wp; generalize a.eval = ρ at *; go_simp; exact fin
    · intro l g a w' K hp hc hl hG hM hK
      have e364 : a.eval (.tmp 364) = .pointer (some ⟨E 2, i + 1, none⟩) := hG.of 364 17 (by kernel_rfl) (preAt hc 22 _ hp (by kernel_rfl))
      have h9l : l 21 = false := hc.not 21 22 hl (by kernel_rfl)
      obtain rfl := hM.1 h9l
      have fin := hK g _ (fun _ _ => rfl) ⟨fun _ => rfl, fun h => absurd h (by rw [upd_other _ _ (by omega), h9l]; decide)⟩
      clear hK hc hp hG hM h9l
      unfold Oper.wp; generalize a.eval = ρ at *; go_simp; exact fin
    · intro l g a w' K hp hc hl hG hM hK
      have e350 : a.eval (.tmp 350) = .slice (some ⟨E 3, 0, none⟩) L L := hG.of 350 3 (by kernel_rfl) (preAt hc 22 _ hp (by kernel_rfl))
      have e357 : a.eval (.tmp 357) = .int .i64 (p : Nat) := hG.of 357 10 (by kernel_rfl) (preAt hc 22 _ hp (by kernel_rfl))
      have e365 : a.eval (.tmp 365) = .int .i64 (q : Nat) := hG.of 365 18 (by kernel_rfl) (preAt hc 22 _ hp (by kernel_rfl))
      have h9l : l 21 = false := hc.not 21 22 hl (by kernel_rfl)
      obtain rfl := hM.1 h9l
      have fin := hK g _ (fun _ _ => rfl) ⟨fun _ => rfl, fun h => absurd h (by rw [upd_other _ _ (by omega), h9l]; decide)⟩
      clear hK hc hp hG hM h9l
      unfold Oper.wp; generalize a.eval = ρ at *; go_simp; exact fin
    · intro l g a w' K hp hc hl hG hM hK
      have e7 : a.eval (.tmp 7) = .pointer (some ⟨E 1, 0, none⟩) := (hG.oldF hF 7 (by kernel_rfl) (by omega)).trans h7
      have h9l : l 21 = false := hc.not 21 22 hl (by kernel_rfl)
      obtain rfl := hM.1 h9l
      have fin := hK g _ (fun _ _ => rfl) ⟨fun _ => rfl, fun h => absurd h (by rw [upd_other _ _ (by omega), h9l]; decide)⟩
      clear hK hc hp hG hM h9l
      unfold Oper.wp; generalize a.eval = ρ at *; go_simp; exact fin
    · intro l g a w' K hp hc hl hG hM hK
      have e366 : a.eval (.tmp 366) = .slice (if L = p then some ⟨E 3, 0, none⟩ else some ⟨E 3, p, none⟩) (q - p) (L - p) := hG.of 366 19 (by kernel_rfl) (preAt hc 22 _ hp (by kernel_rfl))
      have e367 : a.eval (.tmp 367) = .func (.func 40) #[] #[.pointer (some ⟨E 1, 0, none⟩)] := hG.of 367 20 (by kernel_rfl) (preAt hc 22 _ hp (by kernel_rfl))
      have ef : ∀ x, a.eval (.func x) = .func (.func x) #[] #[] := fun _ => rfl
      obtain rfl := hM.1 hl
      have HC : Hid _ := HW.out.drew.sort hL (off := p) (cnt := q - p) (cap := L - p) (ad := if L = p then some ⟨E 3, 0, none⟩ else some ⟨E 3, p, none⟩) (by omega) (by omega) (fun h => by rw [if_neg (by omega)])
      have FIN : Hid (∀ w'', Lw w0 w'' E B n L pf D dp gp → K (a.put (some 368) (.tuple #[])) w'') := fun w'' h => hK g w'' (fun _ _ => rfl) ⟨fun h' => absurd h' (by rw [upd_same]; decide), fun _ => h⟩
      clear hK hc hp hG hM
      unfold Oper.wp; generalize hρ : a.eval = ρ at *; go_simp
      refine Calls.mono HC.out ?_
      rintro e w'' ⟨rfl, hw⟩
      exact FIN.out w'' hw
  · intro l g x w' hl hv ho hM
    have hpost := hM.2 (hl 21 (show 21 < 22 by omega))
    exact HQ.out x w' (fun s hs hw => ho s hs hw) hpost
end Go.Proofs.YbulkexmzaGreat
