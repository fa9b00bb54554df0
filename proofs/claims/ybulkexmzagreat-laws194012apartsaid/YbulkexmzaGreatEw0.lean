/-
  eval (59): steps on its state.
-/
import Derived.Test.YbulkexmzaGreatEv
namespace Go.Proofs.YbulkexmzaGreat
open Go.RowKit Go.Shelf

/-- What eval leaves of the registers. -/
structure Kev (E E' : Nat → Nat) (B B' : Nat → Lb) : Prop where
  e : ∀ k, k ≠ 21 → E' k = E k
  b : ∀ k, k ≠ 17 → k ≠ 21 → B' k = B k

section
variable {w0 w : World} {E : Nat → Nat} {B : Nat → Lb} {m : Nat} {f : Nat → Int}
/-- The path is emptied. -/
theorem Ev.start {pa : Option Addr} {len pc cap : Nat} (h : Ev w0 w E B m) (hst : St w0 w 25 E (upd B 20 (arr m f))) (hfb : ∀ i, i < m → -1 ≤ f i ∧ f i < i) (hb17 : B 17 = bx 46 (.slice pa len pc)) (hP : Sl E B 21 3 1 len cap anyInt (.slice pa len pc)) :
    ∃ B1, (∀ k, k ≠ 17 → k ≠ 20 → k ≠ 21 → B1 k = B k) ∧ Ep w0 (w.setCell ⟨E 17, 0, none⟩ (.slice pa 0 pc)) E B1 m f [] := by
  have s1 := box_set hst 17 (by omega) (t := 46) (v0 := .slice pa len pc) (by show B 17 = _; exact hb17) (.slice pa 0 pc)
  rcases hP with ⟨hn, rfl⟩ | ⟨hn, h21, hle, hmx⟩
  · simp only [Value.slice.injEq] at hn
    obtain ⟨rfl, _, rfl⟩ := hn
    exact ⟨_, fun k h1 h2 _ => by rw [upd_other _ _ h1, upd_other _ _ h2], s1, h.b14, h.b15, h.b16, ⟨_, 0, rfl, .inl ⟨rfl, rfl⟩⟩, h.b18, h.b19, rfl, hfb⟩
  · simp only [Value.slice.injEq, true_and] at hn
    obtain ⟨rfl, rfl⟩ := hn
    have s2 := s1.wkn 21 (gl 3 1 0 pc (ql [])) (by show 3 = (B 21).t; rw [h21]; rfl) (by show pc * 1 = (B 21).n; rw [h21]; rfl) (fun i u _ _ hi => by omega)
    exact ⟨_, fun k h1 h2 h3 => by rw [upd_other _ _ h3, upd_other _ _ h1, upd_other _ _ h2], s2, h.b14, h.b15, h.b16, ⟨_, pc, rfl, .inr ⟨rfl, rfl, Nat.zero_le _, hmx⟩⟩, h.b18, h.b19, rfl, hfb⟩
/-- One more on the path. -/
theorem Ep.push {wa w3 : World} {ps : List Nat} {x g d : Nat} {v : Value} (h : Ep w0 w E B m f ps) (hb17 : B 17 = bx 46 v) (hap : Appd w0 wa 25 E B 21 3 1 ps.length (ql (ps ++ [x])) g d w3) :
    ∃ B1, (∀ k, k ≠ 17 → k ≠ 21 → B1 k = B k) ∧ Ep w0 (w3.setCell ⟨E 17, 0, none⟩ (.slice (some ⟨g, 0, none⟩) (ps.length + 1) d)) (upd E 21 g) B1 m f (ps ++ [x]) := by
  have s1 := box_set hap.1 17 (by omega) (t := 46) (v0 := v) (by show B 17 = _; exact hb17) (.slice (some ⟨g, 0, none⟩) (ps.length + 1) d)
  have hc := hap.2.1.caps (by omega)
  refine ⟨_, fun k h1 h2 => by rw [upd_other _ _ h1, upd_other _ _ h2], s1, h.b14, h.b15, h.b16, ⟨_, d, rfl, ?_⟩, h.b18, h.b19, h.b20, h.fb⟩
  rw [List.length_append]
  exact .inr ⟨rfl, rfl, hc.1, hc.2⟩
theorem Ep.drewN {ps : List Nat} (h : Ep w0 w E B m f ps) (k : Nat) : Ep w0 (w.drewN k) E B m f ps := ⟨h.st.drewN k, h.b14, h.b15, h.b16, h.b17, h.b18, h.b19, h.b20, h.fb⟩
end

theorem ql_last {xs : List Nat} {b j : Nat} {u : Value} (hj : [Value.int .i64 (b : Nat)][j]? = some u) : ql (xs ++ [b]) (xs.length * 1 + j) u := by
  match j, hj with
  | 0, hj => simp at hj; subst hj; exact ⟨b, by simp, rfl⟩

/-- Of the path: each is linked, and what it is linked to; each is greater than x; none twice. -/
structure Pth (m : Nat) (f : Nat → Int) (ps : List Nat) (x : Nat) : Prop where
  lt : ∀ y ∈ ps, y < m ∧ x < y ∧ 0 ≤ f y ∧ 0 ≤ f (f y).toNat
  nd : ps.Nodup

set_option maxRecDepth 100000 in
theorem back60 (a : Option Addr) (len cap : Nat) (w : World) : Calls Ybaz.prog 60 #[.slice a len cap] w fun e w' => e = .returned (.func (.func 85) #[] #[.pointer (some ⟨w.heap.size, 0, none⟩)]) ∧ w' = w.alloc (.cells #[.slice a len cap] 46) := by
  go_enter Ybaz.func60, Ybaz.ntmps60
  go_wp2
  go_ret
  exact ⟨rfl, rfl⟩

end Go.Proofs.YbulkexmzaGreat
