/-
  newSinker (10): regions 13 and 30.
-/
import Derived.Test.YbulkexmzaGreatNd
namespace Go.Proofs.YbulkexmzaGreat
open Go.RowKit

theorem run_mk99 (n : Nat) (hn : n ≤ 100000) : ∃ X : Array Value, ∀ w, (Instr.makeSlice 99 (.int .i64 (n : Nat)) (.int .i64 (n : Nat))).run Ybaz.prog w = .ok (.slice (some ⟨w.heap.size, 0, none⟩) n n) (w.alloc (.cells X 138)) := by
  have hi : ∃ i z, Ybaz.prog.info? 138 = some i ∧ i.zero = some z ∧ i.bytes ≤ 100 := by
    have h : (match Ybaz.prog.info? 138 with
      | some i => i.zero.isSome && Nat.ble i.bytes 100
      | none => false) = true := by kernel_rfl
    cases h1 : Ybaz.prog.info? 138 with
    | none => rw [h1] at h; cases h
    | some i =>
      rw [h1] at h
      simp only [Bool.and_eq_true, Nat.ble_eq] at h
      obtain ⟨z, hz⟩ := Option.isSome_iff_exists.1 h.1
      exact ⟨i, z, rfl, hz, h.2⟩
  obtain ⟨i, z, hi, hz, hb⟩ := hi
  refine ⟨madeCells z.cells ((n : Int).toNat * i.size), fun w => ?_⟩
  have hb2 : i.bytes * n ≤ 100 * 100000 := Nat.mul_le_mul hb hn
  have hb' : (i.bytes : Int) * (n : Int) ≤ 281474976710656 := by
    have h : ((i.bytes * n : Nat) : Int) ≤ 281474976710656 := by omega
    rwa [Int.natCast_mul] at h
  exact run_make (P := Ybaz.prog) w 99 138 i z Ybaz.underlying99 hi hz .i64 .i64 (n : Int) (n : Int) (by omega) (by omega) hb' (by omega)
theorem op_mkX {t e : TypeId} {n : Nat} {X : Array Value} (hX : ∀ w, (Instr.makeSlice t (.int .i64 (n : Nat)) (.int .i64 (n : Nat))).run Ybaz.prog w = .ok (.slice (some ⟨w.heap.size, 0, none⟩) n n) (w.alloc (.cells X e))) {o : Oper} {a : Act} {w : World} {K : Act → World → Prop} {Q : Exit → Act → World → Prop} (l c : Operand) (ho : o.op = .makeSlice t l c) (el : a.eval l = .int .i64 (n : Nat)) (ec : a.eval c = .int .i64 (n : Nat))
    (hK : K (a.put o.dst (.slice (some ⟨w.heap.size, 0, none⟩) n n)) (w.alloc (.cells X e))) : o.wp Ybaz.prog a w K Q := by
  have hrun := hX w
  unfold Oper.wp
  obtain ⟨dst, op, type, pos, after, guard⟩ := o
  simp only at ho hK
  subst ho
  simp only [execOp, el, ec]
  simp [hrun]
  exact hK
set_option maxHeartbeats 4000000 in
set_option maxRecDepth 100000 in
theorem n13 {F : (Nat → Value) → Act} (hF : Fr 233 F) {w : World} {f : Nat → Value} {Q : Exit → Act → World → Prop} {sp ga t n : Nat} (k5 : w.cell? ⟨sp, 5, none⟩ = some (.slice (some ⟨ga, 0, none⟩) (n + 1) (n + 1))) (kd : w.cell? ⟨ga, t, none⟩ = some (.int .i64 0)) (kc : w.cell? ⟨ga, t + 1, none⟩ = some (.int .i64 0)) (kf : w.frozen? ⟨ga, t + 1, none⟩ = false) (ht : t < n) (hn : n ≤ 100000) (h8 : f 8 = .pointer (some ⟨sp, 0, none⟩)) (h11 : f 11 = .int .i64 (t : Nat))
    (hQ : ∀ x, (∀ s, s < 233 → wrF (opsL (Ybaz.f10.body.bind (regAt 13))) 0 s = none → x s = f s) → Q .normal (F x) (w.drew.setCell ⟨ga, t + 1, none⟩ (.int .i64 0))) :
    ((Ybaz.f10.body.bind (regAt 13)).getD .skip).wp Ybaz.prog Q (F f) w := by
  conv => arg 2; whnf
  have hb1n : ¬ ((t : Int) + 1 < 0) := by omega
  have hb1p : (0 : Int) ≤ (t : Int) + 1 := by omega
  have hb1t : ((t : Int) + 1).toNat = t + 1 := by omega
  have hwr : IntKind.i64.wrap ((t : Int) + 1) = (t : Int) + 1 := by rw [IntKind.wrap_i64]; omega
  have hbz : (t : Int) < (n : Int) + 1 := by omega
  have hbzz : (t : Int) < (n : Int) := by omega
  have hw0 : IntKind.i64.wrap ((0 : Int) + 0) = 0 := rfl
  have HQ : Hid (∀ x, (∀ s, s < 233 → wrF (opsL (Ybaz.f10.body.bind (regAt 13))) 0 s = none → x s = f s) → Q .normal (F x) (w.drew.setCell ⟨ga, t + 1, none⟩ (.int .i64 0))) := hQ
  clear hQ
  refine region_frm hF (γ := Unit) (fun op9 g => match op9 with
    | 0 => .pointer (some ⟨sp, 0, none⟩)
    | 1 => .pointer (some ⟨sp, 0, none⟩)
    | 2 => .pointer (some ⟨sp, 5, none⟩)
    | 3 => .slice (some ⟨ga, 0, none⟩) (n + 1) (n + 1)
    | 4 => .int .i64 (t : Nat)
    | 5 => .int .i64 ((t : Int) + 1)
    | 6 => .pointer (some ⟨ga, t + 1, none⟩)
    | 7 => .int .i64 0
    | 8 => .pointer (some ⟨sp, 0, none⟩)
    | 9 => .pointer (some ⟨sp, 0, none⟩)
    | 10 => .pointer (some ⟨sp, 5, none⟩)
    | 11 => .slice (some ⟨ga, 0, none⟩) (n + 1) (n + 1)
    | 12 => .int .i64 (t : Nat)
    | 13 => .pointer (some ⟨ga, t, none⟩)
    | 14 => .int .i64 0
    | 15 => .int .i64 0
    | 16 => .pointer (some ⟨ga, t + 1, none⟩)
    | 17 => undef
    | _ => undef) (fun l _ w' => (l 17 = false → w' = w.drew) ∧ (l 17 = true → w' = w.drew.setCell ⟨ga, t + 1, none⟩ (.int .i64 0))) () (by kernel_rfl) (by kernel_rfl) ⟨fun _ => rfl, fun h => (by cases h)⟩ ?_ ?_
  · refine ⟨?_, ?_, ?_, ?_, ?_, ?_, ?_, ?_, ?_, ?_, ?_, ?_, ?_, ?_, ?_, ?_, ?_, ?_, trivial⟩
    · intro l g a w' K hp hc hl hG hM hK
      have e8 : a.eval (.tmp 8) = .pointer (some ⟨sp, 0, none⟩) := (hG.oldF hF 8 (by kernel_rfl) (by omega)).trans h8
      have h9l : l 17 = false := hc.not 17 18 hl (by kernel_rfl)
      obtain rfl := hM.1 h9l
      have fin := hK g _ (fun _ _ => rfl) ⟨fun _ => rfl, fun h => absurd h (by rw [upd_other _ _ (by omega), h9l]; decide)⟩
      clear hK hc hp hG hM h9l
      unfold Oper.wp; generalize a.eval = ρ at *; go_simp; exact fin
    · intro l g a w' K hp hc hl hG hM hK
      have e114 : a.eval (.tmp 114) = .pointer (some ⟨sp, 0, none⟩) := hG.of 114 0 (by kernel_rfl) (preAt hc 18 _ hp (by kernel_rfl))
      have h9l : l 17 = false := hc.not 17 18 hl (by kernel_rfl)
      obtain rfl := hM.1 h9l
      have fin := hK g _ (fun _ _ => rfl) ⟨fun _ => rfl, fun h => absurd h (by rw [upd_other _ _ (by omega), h9l]; decide)⟩
      clear hK hc hp hG hM h9l
      unfold Oper.wp; generalize a.eval = ρ at *; go_simp; exact fin
    · intro l g a w' K hp hc hl hG hM hK
      have e115 : a.eval (.tmp 115) = .pointer (some ⟨sp, 0, none⟩) := hG.of 115 1 (by kernel_rfl) (preAt hc 18 _ hp (by kernel_rfl))
      have h9l : l 17 = false := hc.not 17 18 hl (by kernel_rfl)
      obtain rfl := hM.1 h9l
      have fin := hK g _ (fun _ _ => rfl) ⟨fun _ => rfl, fun h => absurd h (by rw [upd_other _ _ (by omega), h9l]; decide)⟩
      clear hK hc hp hG hM h9l
      unfold Oper.wp; generalize a.eval = ρ at *; go_simp; exact fin
    · intro l g a w' K hp hc hl hG hM hK
      have e116 : a.eval (.tmp 116) = .pointer (some ⟨sp, 5, none⟩) := hG.of 116 2 (by kernel_rfl) (preAt hc 18 _ hp (by kernel_rfl))
      have h9l : l 17 = false := hc.not 17 18 hl (by kernel_rfl)
      obtain rfl := hM.1 h9l
      have fin := hK g _ (fun _ _ => rfl) ⟨fun _ => rfl, fun h => absurd h (by rw [upd_other _ _ (by omega), h9l]; decide)⟩
      clear hK hc hp hG hM h9l
      unfold Oper.wp; generalize a.eval = ρ at *; go_simp; exact fin
    · intro l g a w' K hp hc hl hG hM hK
      have e11 : a.eval (.tmp 11) = .int .i64 (t : Nat) := (hG.oldF hF 11 (by kernel_rfl) (by omega)).trans h11
      have h9l : l 17 = false := hc.not 17 18 hl (by kernel_rfl)
      obtain rfl := hM.1 h9l
      have fin := hK g _ (fun _ _ => rfl) ⟨fun _ => rfl, fun h => absurd h (by rw [upd_other _ _ (by omega), h9l]; decide)⟩
      clear hK hc hp hG hM h9l
      unfold Oper.wp; generalize a.eval = ρ at *; go_simp; exact fin
    · intro l g a w' K hp hc hl hG hM hK
      have e118 : a.eval (.tmp 118) = .int .i64 (t : Nat) := hG.of 118 4 (by kernel_rfl) (preAt hc 18 _ hp (by kernel_rfl))
      have ec : ∀ v, a.eval (.const v) = v := fun _ => rfl
      have h9l : l 17 = false := hc.not 17 18 hl (by kernel_rfl)
      obtain rfl := hM.1 h9l
      have fin := hK g _ (fun _ _ => rfl) ⟨fun _ => rfl, fun h => absurd h (by rw [upd_other _ _ (by omega), h9l]; decide)⟩
      clear hK hc hp hG hM h9l
      unfold Oper.wp; generalize a.eval = ρ at *; go_simp; exact fin
    · intro l g a w' K hp hc hl hG hM hK
      have e117 : a.eval (.tmp 117) = .slice (some ⟨ga, 0, none⟩) (n + 1) (n + 1) := hG.of 117 3 (by kernel_rfl) (preAt hc 18 _ hp (by kernel_rfl))
      have e119 : a.eval (.tmp 119) = .int .i64 ((t : Int) + 1) := hG.of 119 5 (by kernel_rfl) (preAt hc 18 _ hp (by kernel_rfl))
      have h9l : l 17 = false := hc.not 17 18 hl (by kernel_rfl)
      obtain rfl := hM.1 h9l
      have fin := hK g _ (fun _ _ => rfl) ⟨fun _ => rfl, fun h => absurd h (by rw [upd_other _ _ (by omega), h9l]; decide)⟩
      clear hK hc hp hG hM h9l
      unfold Oper.wp; generalize a.eval = ρ at *; go_simp; exact fin
    · intro l g a w' K hp hc hl hG hM hK
      have e120 : a.eval (.tmp 120) = .pointer (some ⟨ga, t + 1, none⟩) := hG.of 120 6 (by kernel_rfl) (preAt hc 18 _ hp (by kernel_rfl))
      have h9l : l 17 = false := hc.not 17 18 hl (by kernel_rfl)
      obtain rfl := hM.1 h9l
      have fin := hK g _ (fun _ _ => rfl) ⟨fun _ => rfl, fun h => absurd h (by rw [upd_other _ _ (by omega), h9l]; decide)⟩
      clear hK hc hp hG hM h9l
      unfold Oper.wp; generalize a.eval = ρ at *; go_simp; exact fin
    · intro l g a w' K hp hc hl hG hM hK
      have e8 : a.eval (.tmp 8) = .pointer (some ⟨sp, 0, none⟩) := (hG.oldF hF 8 (by kernel_rfl) (by omega)).trans h8
      have h9l : l 17 = false := hc.not 17 18 hl (by kernel_rfl)
      obtain rfl := hM.1 h9l
      have fin := hK g _ (fun _ _ => rfl) ⟨fun _ => rfl, fun h => absurd h (by rw [upd_other _ _ (by omega), h9l]; decide)⟩
      clear hK hc hp hG hM h9l
      unfold Oper.wp; generalize a.eval = ρ at *; go_simp; exact fin
    · intro l g a w' K hp hc hl hG hM hK
      have e122 : a.eval (.tmp 122) = .pointer (some ⟨sp, 0, none⟩) := hG.of 122 8 (by kernel_rfl) (preAt hc 18 _ hp (by kernel_rfl))
      have h9l : l 17 = false := hc.not 17 18 hl (by kernel_rfl)
      obtain rfl := hM.1 h9l
      have fin := hK g _ (fun _ _ => rfl) ⟨fun _ => rfl, fun h => absurd h (by rw [upd_other _ _ (by omega), h9l]; decide)⟩
      clear hK hc hp hG hM h9l
      unfold Oper.wp; generalize a.eval = ρ at *; go_simp; exact fin
    · intro l g a w' K hp hc hl hG hM hK
      have e123 : a.eval (.tmp 123) = .pointer (some ⟨sp, 0, none⟩) := hG.of 123 9 (by kernel_rfl) (preAt hc 18 _ hp (by kernel_rfl))
      have h9l : l 17 = false := hc.not 17 18 hl (by kernel_rfl)
      obtain rfl := hM.1 h9l
      have fin := hK g _ (fun _ _ => rfl) ⟨fun _ => rfl, fun h => absurd h (by rw [upd_other _ _ (by omega), h9l]; decide)⟩
      clear hK hc hp hG hM h9l
      unfold Oper.wp; generalize a.eval = ρ at *; go_simp; exact fin
    · intro l g a w' K hp hc hl hG hM hK
      have e124 : a.eval (.tmp 124) = .pointer (some ⟨sp, 5, none⟩) := hG.of 124 10 (by kernel_rfl) (preAt hc 18 _ hp (by kernel_rfl))
      have h9l : l 17 = false := hc.not 17 18 hl (by kernel_rfl)
      obtain rfl := hM.1 h9l
      have fin := hK g _ (fun _ _ => rfl) ⟨fun _ => rfl, fun h => absurd h (by rw [upd_other _ _ (by omega), h9l]; decide)⟩
      clear hK hc hp hG hM h9l
      unfold Oper.wp; generalize a.eval = ρ at *; go_simp; exact fin
    · intro l g a w' K hp hc hl hG hM hK
      have e11 : a.eval (.tmp 11) = .int .i64 (t : Nat) := (hG.oldF hF 11 (by kernel_rfl) (by omega)).trans h11
      have h9l : l 17 = false := hc.not 17 18 hl (by kernel_rfl)
      obtain rfl := hM.1 h9l
      have fin := hK g _ (fun _ _ => rfl) ⟨fun _ => rfl, fun h => absurd h (by rw [upd_other _ _ (by omega), h9l]; decide)⟩
      clear hK hc hp hG hM h9l
      unfold Oper.wp; generalize a.eval = ρ at *; go_simp; exact fin
    · intro l g a w' K hp hc hl hG hM hK
      have e125 : a.eval (.tmp 125) = .slice (some ⟨ga, 0, none⟩) (n + 1) (n + 1) := hG.of 125 11 (by kernel_rfl) (preAt hc 18 _ hp (by kernel_rfl))
      have e126 : a.eval (.tmp 126) = .int .i64 (t : Nat) := hG.of 126 12 (by kernel_rfl) (preAt hc 18 _ hp (by kernel_rfl))
      have h9l : l 17 = false := hc.not 17 18 hl (by kernel_rfl)
      obtain rfl := hM.1 h9l
      have fin := hK g _ (fun _ _ => rfl) ⟨fun _ => rfl, fun h => absurd h (by rw [upd_other _ _ (by omega), h9l]; decide)⟩
      clear hK hc hp hG hM h9l
      unfold Oper.wp; generalize a.eval = ρ at *; go_simp; exact fin
    · intro l g a w' K hp hc hl hG hM hK
      have e127 : a.eval (.tmp 127) = .pointer (some ⟨ga, t, none⟩) := hG.of 127 13 (by kernel_rfl) (preAt hc 18 _ hp (by kernel_rfl))
      have h9l : l 17 = false := hc.not 17 18 hl (by kernel_rfl)
      obtain rfl := hM.1 h9l
      have fin := hK g _ (fun _ _ => rfl) ⟨fun _ => rfl, fun h => absurd h (by rw [upd_other _ _ (by omega), h9l]; decide)⟩
      clear hK hc hp hG hM h9l
      unfold Oper.wp; generalize a.eval = ρ at *; go_simp; exact fin
    · intro l g a w' K hp hc hl hG hM hK
      have e121 : a.eval (.tmp 121) = .int .i64 0 := hG.of 121 7 (by kernel_rfl) (preAt hc 18 _ hp (by kernel_rfl))
      have e128 : a.eval (.tmp 128) = .int .i64 0 := hG.of 128 14 (by kernel_rfl) (preAt hc 18 _ hp (by kernel_rfl))
      have h9l : l 17 = false := hc.not 17 18 hl (by kernel_rfl)
      obtain rfl := hM.1 h9l
      have fin := hK g _ (fun _ _ => rfl) ⟨fun _ => rfl, fun h => absurd h (by rw [upd_other _ _ (by omega), h9l]; decide)⟩
      clear hK hc hp hG hM h9l
      unfold Oper.wp; generalize a.eval = ρ at *; go_simp; exact fin
    · intro l g a w' K hp hc hl hG hM hK
      have e117 : a.eval (.tmp 117) = .slice (some ⟨ga, 0, none⟩) (n + 1) (n + 1) := hG.of 117 3 (by kernel_rfl) (preAt hc 18 _ hp (by kernel_rfl))
      have e119 : a.eval (.tmp 119) = .int .i64 ((t : Int) + 1) := hG.of 119 5 (by kernel_rfl) (preAt hc 18 _ hp (by kernel_rfl))
      have h9l : l 17 = false := hc.not 17 18 hl (by kernel_rfl)
      obtain rfl := hM.1 h9l
      have fin := hK g _ (fun _ _ => rfl) ⟨fun _ => rfl, fun h => absurd h (by rw [upd_other _ _ (by omega), h9l]; decide)⟩
      clear hK hc hp hG hM h9l
      unfold Oper.wp; generalize a.eval = ρ at *; go_simp; exact fin
    · intro l g a w' K hp hc hl hG hM hK
      have e130 : a.eval (.tmp 130) = .pointer (some ⟨ga, t + 1, none⟩) := hG.of 130 16 (by kernel_rfl) (preAt hc 18 _ hp (by kernel_rfl))
      have e129 : a.eval (.tmp 129) = .int .i64 0 := hG.of 129 15 (by kernel_rfl) (preAt hc 18 _ hp (by kernel_rfl))
      obtain rfl := hM.1 hl
      have fin := hK g (w.drew.setCell ⟨ga, t + 1, none⟩ (.int .i64 0)) (fun _ _ => rfl) ⟨fun h' => absurd h' (by rw [upd_same]; decide), fun _ => rfl⟩
      clear hK hc hp hG hM
      unfold Oper.wp; generalize a.eval = ρ at *; go_simp; exact fin
  · intro l g x w' hl hv ho hM
    have hpost := hM.2 (hl 17 (show 17 < 18 by omega))
    subst hpost
    exact HQ.out x (fun s hs hw => ho s hs hw)
set_option maxHeartbeats 4000000 in
set_option maxRecDepth 100000 in
theorem n30 {F : (Nat → Value) → Act} (hF : Fr 233 F) {w0 w : World} {f D : Nat → Value} {Q : Exit → Act → World → Prop} {sp q fb n bb bo bc : Nat} (hs : w0.Since w0.heap.size w) (hrow : RowOk w sp (vals 79 23 D)) (hqrow : RowOk w q (zany 101 20)) (d18 : D 18 = .pointer (some ⟨q, 0, none⟩)) (hq : w0.heap.size ≤ q) (hne : sp ≠ q) (hk11 : w0.cell? ⟨fb, 11, none⟩ = some (.slice (some ⟨bb, bo, none⟩) n bc)) (hn : n ≤ 100000) (h0 : f 0 = .pointer (some ⟨fb, 0, none⟩)) (h8 : f 8 = .pointer (some ⟨sp, 0, none⟩))
    (hQ : ∀ x w', (∀ s, s < 233 → wrF (opsL (Ybaz.f10.body.bind (regAt 30))) 0 s = none → x s = f s) → w0.Since w0.heap.size w' → RowOk w' sp (vals 79 23 D) → Q .normal (F x) w') :
    ((Ybaz.f10.body.bind (regAt 30)).getD .skip).wp Ybaz.prog Q (F f) w := by
  conv => arg 2; whnf
  obtain ⟨X, hX⟩ := run_mk99 n hn
  have HQ : Hid (∀ x w', (∀ s, s < 233 → wrF (opsL (Ybaz.f10.body.bind (regAt 30))) 0 s = none → x s = f s) → w0.Since w0.heap.size w' → RowOk w' sp (vals 79 23 D) → Q .normal (F x) w') := hQ
  have H0 : Hid (w0.Since w0.heap.size w.drew ∧ RowOk w.drew sp (vals 79 23 D) ∧ RowOk w.drew q (zany 101 20)) := ⟨hs.drew, hrow.of_block rfl, hqrow.of_block rfl⟩
  clear hQ hs hrow hqrow
  refine region_frm hF (γ := Nat) (fun op9 g => match op9 with
    | 0 => .pointer (some ⟨sp, 0, none⟩)
    | 1 => .pointer (some ⟨sp, 0, none⟩)
    | 2 => .pointer (some ⟨sp, 18, none⟩)
    | 3 => .pointer (some ⟨sp, 18, none⟩)
    | 4 => .pointer (some ⟨q, 0, none⟩)
    | 5 => .pointer (some ⟨fb, 0, none⟩)
    | 6 => .pointer (some ⟨fb, 0, none⟩)
    | 7 => .pointer (some ⟨fb, 11, none⟩)
    | 8 => .slice (some ⟨bb, bo, none⟩) n bc
    | 9 => .int .i64 (n : Nat)
    | 10 => .slice (some ⟨g, 0, none⟩) n n
    | 11 => .pointer (some ⟨q, 0, none⟩)
    | 12 => .pointer (some ⟨q, 18, none⟩)
    | 13 => undef
    | _ => undef) (fun _ _ w' => w0.Since w0.heap.size w' ∧ RowOk w' sp (vals 79 23 D) ∧ RowOk w' q (zany 101 20)) 0 (by kernel_rfl) (by kernel_rfl) H0.out ?_ ?_
  · refine ⟨?_, ?_, ?_, ?_, ?_, ?_, ?_, ?_, ?_, ?_, ?_, ?_, ?_, ?_, trivial⟩
    · intro l g a w' K hp hc hl hG hM hK
      have e8 : a.eval (.tmp 8) = .pointer (some ⟨sp, 0, none⟩) := (hG.oldF hF 8 (by kernel_rfl) (by omega)).trans h8
      clear hc hp hG
      unfold Oper.wp; generalize a.eval = ρ at *; go_simp; exact hK g w' (fun _ _ => rfl) hM
    · intro l g a w' K hp hc hl hG hM hK
      have e219 : a.eval (.tmp 219) = .pointer (some ⟨sp, 0, none⟩) := hG.of 219 0 (by kernel_rfl) (preAt hc 14 _ hp (by kernel_rfl))
      clear hc hp hG
      unfold Oper.wp; generalize a.eval = ρ at *; go_simp; exact hK g w' (fun _ _ => rfl) hM
    · intro l g a w' K hp hc hl hG hM hK
      have e220 : a.eval (.tmp 220) = .pointer (some ⟨sp, 0, none⟩) := hG.of 220 1 (by kernel_rfl) (preAt hc 14 _ hp (by kernel_rfl))
      clear hc hp hG
      unfold Oper.wp; generalize a.eval = ρ at *; go_simp; exact hK g w' (fun _ _ => rfl) hM
    · intro l g a w' K hp hc hl hG hM hK
      have e221 : a.eval (.tmp 221) = .pointer (some ⟨sp, 18, none⟩) := hG.of 221 2 (by kernel_rfl) (preAt hc 14 _ hp (by kernel_rfl))
      have ec : ∀ v, a.eval (.const v) = v := fun _ => rfl
      clear hc hp hG
      unfold Oper.wp; generalize a.eval = ρ at *; go_simp; exact hK g w' (fun _ _ => rfl) hM
    · intro l g a w' K hp hc hl hG hM hK
      have e222 : a.eval (.tmp 222) = .pointer (some ⟨sp, 18, none⟩) := hG.of 222 3 (by kernel_rfl) (preAt hc 14 _ hp (by kernel_rfl))
      obtain ⟨u, ku, hu⟩ := hM.2.1.cell (i := 18) (by show 18 < 23; omega)
      have hu' : u = D 18 := hu
      rw [hu', d18] at ku
      clear hc hp hG
      unfold Oper.wp; generalize a.eval = ρ at *; go_simp; exact hK g w' (fun _ _ => rfl) hM
    · intro l g a w' K hp hc hl hG hM hK
      have e0 : a.eval (.tmp 0) = .pointer (some ⟨fb, 0, none⟩) := (hG.oldF hF 0 (by kernel_rfl) (by omega)).trans h0
      clear hc hp hG
      unfold Oper.wp; generalize a.eval = ρ at *; go_simp; exact hK g w' (fun _ _ => rfl) hM
    · intro l g a w' K hp hc hl hG hM hK
      have e224 : a.eval (.tmp 224) = .pointer (some ⟨fb, 0, none⟩) := hG.of 224 5 (by kernel_rfl) (preAt hc 14 _ hp (by kernel_rfl))
      clear hc hp hG
      unfold Oper.wp; generalize a.eval = ρ at *; go_simp; exact hK g w' (fun _ _ => rfl) hM
    · intro l g a w' K hp hc hl hG hM hK
      have e225 : a.eval (.tmp 225) = .pointer (some ⟨fb, 0, none⟩) := hG.of 225 6 (by kernel_rfl) (preAt hc 14 _ hp (by kernel_rfl))
      clear hc hp hG
      unfold Oper.wp; generalize a.eval = ρ at *; go_simp; exact hK g w' (fun _ _ => rfl) hM
    · intro l g a w' K hp hc hl hG hM hK
      have e226 : a.eval (.tmp 226) = .pointer (some ⟨fb, 11, none⟩) := hG.of 226 7 (by kernel_rfl) (preAt hc 14 _ hp (by kernel_rfl))
      have kk := old_cell hM.1 hk11
      clear hc hp hG
      unfold Oper.wp; generalize a.eval = ρ at *; go_simp; exact hK g w' (fun _ _ => rfl) hM
    · intro l g a w' K hp hc hl hG hM hK
      have e227 : a.eval (.tmp 227) = .slice (some ⟨bb, bo, none⟩) n bc := hG.of 227 8 (by kernel_rfl) (preAt hc 14 _ hp (by kernel_rfl))
      clear hc hp hG
      unfold Oper.wp; generalize a.eval = ρ at *; go_simp; exact hK g w' (fun _ _ => rfl) hM
    · intro l g a w' K hp hc hl hG hM hK
      have e228 : a.eval (.tmp 228) = .int .i64 (n : Nat) := hG.of 228 9 (by kernel_rfl) (preAt hc 14 _ hp (by kernel_rfl))
      refine op_mkX hX (.tmp 228) (.tmp 228) rfl e228 e228 ?_
      have hsn := alloc_since w' (.cells X 138)
      exact hK w'.heap.size _ (fun i hi => by
              match i, hi with
              | 0, _ => rfl
              | 1, _ => rfl
              | 2, _ => rfl
              | 3, _ => rfl
              | 4, _ => rfl
              | 5, _ => rfl
              | 6, _ => rfl
              | 7, _ => rfl
              | 8, _ => rfl
              | 9, _ => rfl
              | 10, hi => exact absurd hi (by rw [hl]; decide)
              | 11, _ => rfl
              | 12, _ => rfl
              | 13, _ => rfl
              | _ + 14, _ => rfl) ⟨hM.1.alloc hM.1.size _, hM.2.1.of_block (hsn.block _ hM.2.1.lt), hM.2.2.of_block (hsn.block _ hM.2.2.lt)⟩
    · intro l g a w' K hp hc hl hG hM hK
      have e223 : a.eval (.tmp 223) = .pointer (some ⟨q, 0, none⟩) := hG.of 223 4 (by kernel_rfl) (preAt hc 14 _ hp (by kernel_rfl))
      clear hc hp hG
      unfold Oper.wp; generalize a.eval = ρ at *; go_simp; exact hK g w' (fun _ _ => rfl) hM
    · intro l g a w' K hp hc hl hG hM hK
      have e230 : a.eval (.tmp 230) = .pointer (some ⟨q, 0, none⟩) := hG.of 230 11 (by kernel_rfl) (preAt hc 14 _ hp (by kernel_rfl))
      clear hc hp hG
      unfold Oper.wp; generalize a.eval = ρ at *; go_simp; exact hK g w' (fun _ _ => rfl) hM
    · intro l g a w' K hp hc hl hG hM hK
      have e231 : a.eval (.tmp 231) = .pointer (some ⟨q, 18, none⟩) := hG.of 231 12 (by kernel_rfl) (preAt hc 14 _ hp (by kernel_rfl))
      have e229 : a.eval (.tmp 229) = .slice (some ⟨g, 0, none⟩) n n := hG.of 229 10 (by kernel_rfl) (preAt hc 14 _ hp (by kernel_rfl))
      obtain ⟨u, ku, _⟩ := hM.2.2.cell (i := 18) (by show 18 < 20; omega)
      have kf := hM.2.2.frozen 18
      have fin := hK g (w'.setCell ⟨q, 18, none⟩ (.slice (some ⟨g, 0, none⟩) n n)) (fun _ _ => rfl) ⟨hM.1.setCell hq _, hM.2.1.of_block (Go.Deep.blk_setCell_other _ _ _ _ hne), hM.2.2.set (zany 101 20) rfl rfl trivial (fun _ _ _ _ _ => trivial)⟩
      clear hK hc hp hG hM
      unfold Oper.wp; generalize a.eval = ρ at *; go_simp; exact fin
  · intro l g x w' hl hv ho hM
    exact HQ.out x w' (fun s hs hw => ho s hs hw) hM.1 hM.2.1
end Go.Proofs.YbulkexmzaGreat
