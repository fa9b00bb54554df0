/-
  sink.order (11): region 31, inside a round.
-/
import Derived.Test.YbulkexmzaGreatOd
namespace Go.Proofs.YbulkexmzaGreat
open Go.RowKit Go.Shelf
attribute [local go_sem] Oper.semAt_some

/-- One region, in the body of a range over a function too. -/
def rndAt (k : Nat) : Code → Option Code
  | .region id o b => if Nat.beq id k = true then some (.region id o b) else none
  | .seq a b => match rndAt k a with
    | some c => some c
    | none => rndAt k b
  | .cond _ a b => match rndAt k a with
    | some c => some c
    | none => rndAt k b
  | .block _ c => rndAt k c
  | .scope c => rndAt k c
  | .loop c => rndAt k c
  | .rangeFunc _ _ a b => match rndAt k a with
    | some c => some c
    | none => rndAt k b
  | _ => none
set_option maxHeartbeats 4000000 in
set_option maxRecDepth 100000 in
theorem o31 {G : List Deferred → (Nat → Value) → Act} (hG : ∀ ds, Frd 175 ds (G ds)) {ds : List Deferred} {w0 w : World} {K ll nn : Nat} {E : Nat → Nat} {B : Nat → Lb} {sb bb kd : Nat} {f : Nat → Value} {Q : Exit → Act → World → Prop}
    (hS : St w0 w K E B) (hK9 : 9 < K) (b1 : B 1 = bx 102 (.func (.func 24) #[] #[.pointer (some ⟨E 0, 0, none⟩)])) (b9 : B 9 = bx 40 (.pointer (some ⟨bb, 0, none⟩))) (kkd : w0.cell? ⟨bb, 2, none⟩ = some (.int .u8 (kd : Nat))) (hkd : kd ≠ 1) (h5 : f 5 = .pointer (some ⟨E 1, 0, none⟩)) (h18 : f 18 = .pointer (some ⟨E 9, 0, none⟩)) (h21 : f 21 = .pointer (some ⟨sb, 0, none⟩))
    (hQ : ∀ x w', x 161 = .bool false → St w0 w' K E B → (∀ b, b < w.heap.size → w'.heap[b]? = w.heap[b]?) → Q .normal (G ds x) w') :
    ((Ybaz.f11.body.bind (rndAt 31)).getD .skip).wpIn (Fence.wide.inRound ll) nn Ybaz.prog Q (G ds f) w := by
  conv => arg 4; whnf
  have HQ : Hid (∀ x w', x 161 = .bool false → St w0 w' K E B → (∀ b, b < w.heap.size → w'.heap[b]? = w.heap[b]?) → Q .normal (G ds x) w') := hQ
  have H0 : Hid (St w0 w.drew K E B ∧ ∀ b, b < w.heap.size → w.drew.heap[b]? = w.heap[b]?) := ⟨hS.drew, fun _ _ => rfl⟩
  clear hQ hS
  refine region_envI (γ := Unit) (fun op9 g => match op9 with
    | 0 => .func (.func 24) #[] #[.pointer (some ⟨E 0, 0, none⟩)]
    | 1 => .pointer (some ⟨bb, 0, none⟩)
    | 2 => .pointer (some ⟨sb, 0, none⟩)
    | 3 => .bool false
    | 4 => .bool false
    | 5 => undef
    | 6 => undef
    | 7 => undef
    | 8 => undef
    | 9 => undef
    | 10 => undef
    | 11 => undef
    | 12 => undef
    | 13 => .bool false
    | _ => undef) (fun _ _ w' => St w0 w' K E B ∧ ∀ b, b < w.heap.size → w'.heap[b]? = w.heap[b]?) 175 () (by kernel_rfl) ((hG ds).size f) (by kernel_rfl) H0.out ?_ ?_
  · refine ⟨?_, ?_, ?_, ?_, ?_, ?_, ?_, ?_, ?_, ?_, ?_, ?_, ?_, ?_, trivial⟩
    · intro l g a w' K' hp hc hl hgd hM hK
      rw [if_pos (no_guard rfl)]
      have e5 : a.eval (.tmp 5) = .pointer (some ⟨E 1, 0, none⟩) := (hgd.old 5 (by kernel_rfl)).trans (((hG ds).eval f (by omega)).trans h5)
      have kk := hM.1.box (k := 1) (by omega) b1
      clear hc hp hgd
      unfold Oper.wpIn; generalize a.eval = ρ at *; go_simp; exact hK g w' (fun _ _ => rfl) hM
    · intro l g a w' K' hp hc hl hgd hM hK
      rw [if_pos (no_guard rfl)]
      have e18 : a.eval (.tmp 18) = .pointer (some ⟨E 9, 0, none⟩) := (hgd.old 18 (by kernel_rfl)).trans (((hG ds).eval f (by omega)).trans h18)
      have kk := hM.1.box (k := 9) (by omega) b9
      clear hc hp hgd
      unfold Oper.wpIn; generalize a.eval = ρ at *; go_simp; exact hK g w' (fun _ _ => rfl) hM
    · intro l g a w' K' hp hc hl hgd hM hK
      rw [if_pos (no_guard rfl)]
      have e21 : a.eval (.tmp 21) = .pointer (some ⟨sb, 0, none⟩) := (hgd.old 21 (by kernel_rfl)).trans (((hG ds).eval f (by omega)).trans h21)
      clear hc hp hgd
      unfold Oper.wpIn; generalize a.eval = ρ at *; go_simp; exact hK g w' (fun _ _ => rfl) hM
    · intro l g a w' K' hp hc hl hgd hM hK
      rw [if_pos (no_guard rfl)]
      have e148 : a.eval (.tmp 148) = .func (.func 24) #[] #[.pointer (some ⟨E 0, 0, none⟩)] := hgd.of 148 0 (by kernel_rfl) (preAt hc 14 _ hp (by kernel_rfl))
      have e149 : a.eval (.tmp 149) = .pointer (some ⟨bb, 0, none⟩) := hgd.of 149 1 (by kernel_rfl) (preAt hc 14 _ hp (by kernel_rfl))
      have e150 : a.eval (.tmp 150) = .pointer (some ⟨sb, 0, none⟩) := hgd.of 150 2 (by kernel_rfl) (preAt hc 14 _ hp (by kernel_rfl))
      have HC := sunk24 (w := w') (b := bb) (s := sb) (k := kd) (pv := .pointer (some ⟨E 0, 0, none⟩)) (old_cell hM.1.since kkd) hkd
      have FIN : Hid (K' (a.put (some 151) (.bool false)) w'.drew) := hK g w'.drew (fun _ _ => rfl) ⟨hM.1.drew, hM.2⟩
      clear hK hc hp hgd hM
      unfold Oper.wpIn; generalize hρ : a.eval = ρ at *; go_simp
      refine ⟨trivial, fun h => (by cases h), CallsIn.inRound ll ((callsIn_wide.2 HC).mono ?_)⟩
      rintro e w'' ⟨rfl, rfl⟩
      exact FIN.out
    · intro l g a w' K' hp hc hl hgd hM hK
      rw [if_pos (no_guard rfl)]
      have e151 : a.eval (.tmp 151) = .bool false := hgd.of 151 3 (by kernel_rfl) (preAt hc 14 _ hp (by kernel_rfl))
      clear hc hp hgd
      unfold Oper.wpIn; generalize a.eval = ρ at *; go_simp; exact hK g w' (fun _ _ => rfl) hM
    · intro l g a w' K' hp hc hl hgd hM hK
      have eg : a.eval (.tmp 152) = .bool false := hgd.of 152 4 (by kernel_rfl) (preAt hc 14 _ hp (by kernel_rfl))
      rw [if_neg (not_wanted (s := 152) rfl rfl eg)]
      refine ⟨fun _ _ => trivial, ?_⟩
      exact hK g w' (fun _ _ => rfl) hM
    · intro l g a w' K' hp hc hl hgd hM hK
      have eg : a.eval (.tmp 152) = .bool false := hgd.of 152 4 (by kernel_rfl) (preAt hc 14 _ hp (by kernel_rfl))
      rw [if_neg (not_wanted (s := 152) rfl rfl eg)]
      refine ⟨fun _ _ => trivial, ?_⟩
      exact hK g w' (fun _ _ => rfl) hM
    · intro l g a w' K' hp hc hl hgd hM hK
      have eg : a.eval (.tmp 152) = .bool false := hgd.of 152 4 (by kernel_rfl) (preAt hc 14 _ hp (by kernel_rfl))
      rw [if_neg (not_wanted (s := 152) rfl rfl eg)]
      refine ⟨fun _ _ => trivial, ?_⟩
      exact hK g w' (fun _ _ => rfl) hM
    · intro l g a w' K' hp hc hl hgd hM hK
      have eg : a.eval (.tmp 152) = .bool false := hgd.of 152 4 (by kernel_rfl) (preAt hc 14 _ hp (by kernel_rfl))
      rw [if_neg (not_wanted (s := 152) rfl rfl eg)]
      refine ⟨fun _ _ => trivial, ?_⟩
      exact hK g w' (fun _ _ => rfl) hM
    · intro l g a w' K' hp hc hl hgd hM hK
      have eg : a.eval (.tmp 152) = .bool false := hgd.of 152 4 (by kernel_rfl) (preAt hc 14 _ hp (by kernel_rfl))
      rw [if_neg (not_wanted (s := 152) rfl rfl eg)]
      refine ⟨fun _ _ => trivial, ?_⟩
      exact hK g w' (fun _ _ => rfl) hM
    · intro l g a w' K' hp hc hl hgd hM hK
      have eg : a.eval (.tmp 152) = .bool false := hgd.of 152 4 (by kernel_rfl) (preAt hc 14 _ hp (by kernel_rfl))
      rw [if_neg (not_wanted (s := 152) rfl rfl eg)]
      refine ⟨fun _ _ => trivial, ?_⟩
      exact hK g w' (fun _ _ => rfl) hM
    · intro l g a w' K' hp hc hl hgd hM hK
      have eg : a.eval (.tmp 152) = .bool false := hgd.of 152 4 (by kernel_rfl) (preAt hc 14 _ hp (by kernel_rfl))
      rw [if_neg (not_wanted (s := 152) rfl rfl eg)]
      refine ⟨fun _ _ => trivial, ?_⟩
      exact hK g w' (fun _ _ => rfl) hM
    · intro l g a w' K' hp hc hl hgd hM hK
      have eg : a.eval (.tmp 152) = .bool false := hgd.of 152 4 (by kernel_rfl) (preAt hc 14 _ hp (by kernel_rfl))
      rw [if_neg (not_wanted (s := 152) rfl rfl eg)]
      refine ⟨fun _ _ => trivial, ?_⟩
      exact hK g w' (fun _ _ => rfl) hM
    · intro l g a w' K' hp hc hl hgd hM hK
      rw [if_pos (no_guard rfl)]
      have e152 : a.eval (.tmp 152) = .bool false := hgd.of 152 4 (by kernel_rfl) (preAt hc 14 _ hp (by kernel_rfl))
      have e160 : a.eval (.tmp 160) = undef := hgd.of 160 12 (by kernel_rfl) (preAt hc 14 _ hp (by kernel_rfl))
      have ec : ∀ v, a.eval (.const v) = v := fun _ => rfl
      clear hc hp hgd
      unfold Oper.wpIn; generalize a.eval = ρ at *; go_simp; exact hK g w' (fun _ _ => rfl) hM
  · intro l g a w' hl hgd hM
    rw [(hG ds).of a (hgd.sz.trans ((hG ds).size f)) (hgd.df.trans ((hG ds).df f))]
    refine HQ.out _ w' ?_ hM.1 hM.2
    exact hgd.of 161 13 (by kernel_rfl) (hl 13 (show 13 < 14 by omega))
end Go.Proofs.YbulkexmzaGreat
