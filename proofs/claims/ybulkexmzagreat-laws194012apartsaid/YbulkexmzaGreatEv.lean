/-
  eval (59), ir.newDominance's third closure: its state.
-/
import Derived.Test.YbulkexmzaGreatBk
import Derived.Test.YbulkexmzaGreatSw
namespace Go.Proofs.YbulkexmzaGreat
open Go.RowKit Go.Shelf

/-- Of a row of bounded ints: what its cells hold. -/
theorem St.exact {w0 w : World} {K : Nat} {E : Nat → Nat} {B : Nat → Lb} (h : St w0 w K E B) {k : Nat} (hk : k < K) {n : Nat} {lo hi : Nat → Int} (hb : B k = ints n lo hi) :
    ∃ f : Nat → Int, St w0 w K E (upd B k (YbulkexmzaGreat.arr n f)) ∧ ∀ i, i < n → lo i ≤ f i ∧ f i < hi i := by
  have hr := h.row k hk
  rw [hb] at hr
  obtain ⟨c, hc, hn, hp⟩ := hr
  have hn' : c.size = n := hn
  have hx : ∀ i, i < n → ∃ z : Int, c[i]? = some (.int .i64 z) ∧ lo i ≤ z ∧ z < hi i := fun i hi' => by
    obtain ⟨z, h1, h2, h3⟩ := hp i (c[i]'(by omega)) (by simp [show i < c.size by omega])
    exact ⟨z, by rw [← h1]; simp [show i < c.size by omega], h2, h3⟩
  classical
  obtain ⟨f, hf⟩ : ∃ f : Nat → Int, ∀ i, i < n → c[i]? = some (.int .i64 (f i)) ∧ lo i ≤ f i ∧ f i < hi i :=
    ⟨fun i => if hi' : i < n then Classical.choose (hx i hi') else 0, fun i hi' => by simp only [dif_pos hi']; exact Classical.choose_spec (hx i hi')⟩
  refine ⟨f, ⟨h.since, fun j hj => ?_, h.base, h.inj⟩, fun i hi' => (hf i hi').2⟩
  by_cases e : j = k
  · subst e
    rw [upd_same]
    refine ⟨c, hc, hn', fun i u hi' => ?_⟩
    have hlt := (Array.getElem?_eq_some_iff.1 hi').1
    rw [(hf i (by omega)).1] at hi'
    exact (Option.some.inj hi').symm
  · rw [upd_other _ _ e]; exact h.row j hj
/-- .. and back. -/
theorem St.bound {w0 w : World} {K : Nat} {E : Nat → Nat} {B : Nat → Lb} (h : St w0 w K E B) {k : Nat} {n : Nat} {f : Nat → Int} (hb : B k = YbulkexmzaGreat.arr n f) {lo hi : Nat → Int} (hf : ∀ i, i < n → lo i ≤ f i ∧ f i < hi i) : St w0 w K E (upd B k (ints n lo hi)) :=
  h.wkn k (ints n lo hi) (by rw [hb]; rfl) (by rw [hb]; rfl) (fun i v hi' hv => by
    rw [hb] at hv hi'
    exact ⟨f i, hv, hf i hi'⟩)
theorem St.intAt {w0 w : World} {K : Nat} {E : Nat → Nat} {B : Nat → Lb} (h : St w0 w K E B) {k : Nat} (hk : k < K) {n : Nat} {lo hi : Nat → Int} (hb : B k = ints n lo hi) {i : Nat} (hi' : i < n) : ∃ z : Int, w.cell? ⟨E k, i, none⟩ = some (.int .i64 z) ∧ lo i ≤ z ∧ z < hi i := by
  obtain ⟨u, h1, h2⟩ := h.read k hk (i := i) (by rw [hb]; exact hi')
  rw [hb] at h2
  obtain ⟨z, rfl, h3⟩ := h2
  exact ⟨z, h1, h3⟩

def anyInt (_ : Nat) (u : Value) : Prop := ∃ z : Int, u = .int .i64 z

/-- The registers that eval uses: 14 to 17 the boxes of semi, label, ancestor, path; 18 to 21 their rows. -/
structure Ev (w0 w : World) (E : Nat → Nat) (B : Nat → Lb) (m : Nat) : Prop where
  st : St w0 w 25 E B
  b14 : B 14 = bx 46 (.slice (some ⟨E 18, 0, none⟩) m m)
  b15 : B 15 = bx 46 (.slice (some ⟨E 19, 0, none⟩) m m)
  b16 : B 16 = bx 46 (.slice (some ⟨E 20, 0, none⟩) m m)
  b17 : ∃ v len cap, B 17 = bx 46 v ∧ Sl E B 21 3 1 len cap anyInt v
  b18 : B 18 = ints m (fun _ => 0) (fun _ => (m : Int))
  b19 : B 19 = ints m (fun _ => 0) (fun _ => (m : Int))
  b20 : B 20 = ints m (fun _ => -1) (fun i => (i : Int))

/-- While the path is gathered: ancestor's exact numbers; the path so far. -/
structure Ep (w0 w : World) (E : Nat → Nat) (B : Nat → Lb) (m : Nat) (f : Nat → Int) (ps : List Nat) : Prop where
  st : St w0 w 25 E B
  b14 : B 14 = bx 46 (.slice (some ⟨E 18, 0, none⟩) m m)
  b15 : B 15 = bx 46 (.slice (some ⟨E 19, 0, none⟩) m m)
  b16 : B 16 = bx 46 (.slice (some ⟨E 20, 0, none⟩) m m)
  b17 : ∃ v cap, B 17 = bx 46 v ∧ Sl E B 21 3 1 ps.length cap (ql ps) v
  b18 : B 18 = ints m (fun _ => 0) (fun _ => (m : Int))
  b19 : B 19 = ints m (fun _ => 0) (fun _ => (m : Int))
  b20 : B 20 = arr m f
  fb : ∀ i, i < m → -1 ≤ f i ∧ f i < i
end Go.Proofs.YbulkexmzaGreat
