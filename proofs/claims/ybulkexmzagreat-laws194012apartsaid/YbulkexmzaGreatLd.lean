/-
  slices.SortFunc (39) as Liveness calls it.
-/
import Derived.Test.YbulkexmzaGreatLb
namespace Go.Proofs.YbulkexmzaGreat
open Go.RowKit Go.Shelf Go.Lib Go.Sort

def encF {n : Nat} (x : Fin n) : Value := .int .i64 ((x.val : Nat) : Int)

/-- What the sort leaves. -/
def Sorted39 (w : World) (qb n L : Nat) (w' : World) : Prop :=
  (∀ b, b < w.heap.size → b ≠ qb → w'.heap[b]? = w.heap[b]?) ∧ RowOk w' qb ⟨3, L, qn n⟩ ∧ ∀ w0 : World, w0.Since w0.heap.size w → w0.heap.size ≤ qb → w0.Since w0.heap.size w'

theorem sort_any {w : World} {lb_ lv dp gp qb n L off cnt cap : Nat} {ad : Option Addr} (hn : 1 ≤ n) (kl : w.cell? ⟨lb_, 0, none⟩ = some (.pointer (some ⟨lv, 0, none⟩))) (kd : w.cell? ⟨lv, 7, none⟩ = some (.pointer (some ⟨dp, 0, none⟩))) (kp : w.cell? ⟨dp, 3, none⟩ = some (.slice (some ⟨gp, 0, none⟩) (n + 1) (n + 1)))
    (hpre : RowOk w gp (ints (n + 1) (fun _ => 0) (fun _ => 1000000000000))) (hrow : RowOk w qb ⟨3, L, qn n⟩) (hL : off + cnt ≤ L) (hbig : cnt ≤ 1000000000) (had : 0 < cnt → ad = some ⟨qb, off, none⟩) (n1 : lb_ ≠ qb) (n2 : lv ≠ qb) (n3 : dp ≠ qb) (n4 : gp ≠ qb) :
    Calls Ybaz.prog 39 #[.slice ad cnt cap, .func (.func 40) #[] #[.pointer (some ⟨lb_, 0, none⟩)]] w fun e w' => e = .returned (.tuple #[]) ∧ Sorted39 w qb n L w' := by
  by_cases h0 : cnt = 0
  · subst h0
    have hcon := AnyF.slices_SortFunc_none (P := Ybaz.prog) { Ybaz.sort39 with } ad cap (.func (.func 40) #[] #[.pointer (some ⟨lb_, 0, none⟩)]) w
    change Calls Ybaz.prog 39 _ _ _ at hcon
    refine hcon.mono ?_
    rintro e w' ⟨rfl, rfl⟩
    exact ⟨rfl, fun _ _ _ => rfl, hrow, fun _ h _ => h⟩
  · obtain rfl := had (by omega)
    have hq : ∀ j, j < cnt → ∃ z : Fin n, w.cell? ⟨qb, off + j, none⟩ = some (encF z) := fun j hj => by
      obtain ⟨v, h1, p, rfl, h2⟩ := hrow.cell (i := off + j) (by show off + j < L; omega)
      exact ⟨⟨p, h2⟩, h1⟩
    have hP : ∀ j, j < n + 1 → ∃ z : Int, w.cell? ⟨gp, j, none⟩ = some (.int .i64 z) ∧ 0 ≤ z ∧ z < 1000000000000 := fun j hj => by
      obtain ⟨v, h1, z, rfl, h2, h3⟩ := hpre.cell (i := j) (by show j < n + 1; omega)
      exact ⟨z, h1, h2, h3⟩
    classical
    haveI : Inhabited (Fin n) := ⟨⟨0, hn⟩⟩
    obtain ⟨q, hq'⟩ : ∃ q : Nat → Fin n, ∀ j, j < cnt → w.cell? ⟨qb, off + j, none⟩ = some (encF (q j)) := ⟨fun j => if h : j < cnt then Classical.choose (hq j h) else default, fun j hj => by simp only [dif_pos hj]; exact Classical.choose_spec (hq j hj)⟩
    obtain ⟨pr, hpr⟩ : ∃ pr : Nat → Int, ∀ j, j < n + 1 → w.cell? ⟨gp, j, none⟩ = some (.int .i64 (pr j)) ∧ 0 ≤ pr j ∧ pr j < 1000000000000 := ⟨fun j => if h : j < n + 1 then Classical.choose (hP j h) else 0, fun j hj => by simp only [dif_pos hj]; exact Classical.choose_spec (hP j hj)⟩
    have hlb := World.block_lt_of_cell? _ _ kl
    have hlv := World.block_lt_of_cell? _ _ kd
    have hdp := World.block_lt_of_cell? _ _ kp
    have hgp := hpre.lt
    obtain ⟨d, hd⟩ : ∃ d : Array (Fin n), d = Array.ofFn (n := cnt) (fun i => q i.val) := ⟨_, rfl⟩
    have hds : d.size = cnt := by rw [hd]; simp
    have hdj : ∀ j, j < cnt → d[j]! = q j := fun j hj => by rw [hd]; simp [hj]
    have hH : Holds encF w qb off d := fun j hj => by
      rw [hds] at hj
      exact ⟨by rw [hdj j hj]; exact hq' j hj, hrow.frozen _⟩
    have eg : ∀ args w, (callFunc 40 args).run Ybaz.prog w = .ok (.enter 40 args) w := enters_of Ybaz.func40 (by kernel_rfl) rfl
    have hO : SWO (ltOf (fun (x y : Fin n) => pr x.val - pr y.val)) := by
      refine ⟨fun x => ?_, fun x y z h1 h2 => ?_, fun x y z h1 h2 => ?_⟩
      · simp [ltOf]
      · simp only [ltOf, decide_eq_true_eq] at *; omega
      · simp only [ltOf, decide_eq_false_iff_not] at *; omega
    have hcell : ∀ (m : Nat) (dk : Array (Fin n)) (os : Array Obj) {b i : Nat} {v : Value}, b ≠ qb → w.cell? ⟨b, i, none⟩ = some v → (sortWorld encF w qb off m dk os).cell? ⟨b, i, none⟩ = some v := fun m dk os b i v hne hc => by
      have := sw_block encF w qb off m dk os (World.block_lt_of_cell? _ _ hc) hne
      rw [← hc]
      unfold World.cell?
      simp only [this]
    have hcmp : CmpReads Ybaz.prog 40 #[.pointer (some ⟨lb_, 0, none⟩)] encF (fun (x y : Fin n) => pr x.val - pr y.val) qb off d.size w := fun m os dk _ x y =>
      cmp40 (hcell m dk os n1 kl) (hcell m dk os n2 kd) (hcell m dk os n3 kp) (hcell m dk os n4 (hpr x.val (by omega)).1) (hcell m dk os n4 (hpr y.val (by omega)).1) x.isLt y.isLt (hpr x.val (by omega)).2 (hpr y.val (by omega)).2
    have hcon := Any.slices_SortFunc Ybaz.sort39 encF (fun _ => rfl) (fun (x y : Fin n) => pr x.val - pr y.val) hO 40 #[.pointer (some ⟨lb_, 0, none⟩)] qb off cap d w eg hcmp.lays hH hrow.lt (by omega)
    change Calls Ybaz.prog 39 _ _ _ at hcon
    rw [hds] at hcon
    refine hcon.mono ?_
    rintro e w' ⟨rfl, d', m, os, hp, _, rfl⟩
    refine ⟨rfl, fun b hb hne => sw_block encF w qb off m d' os hb hne, sw_row encF qb off m d' os hrow (fun j hj => ?_), fun w0 h1 h2 => sw_since encF qb off m d' os h1 h2⟩
    exact ⟨(d'[j]!).val, rfl, (d'[j]!).isLt⟩
end Go.Proofs.YbulkexmzaGreat
