/-
  eval (59): the path is shortened (from region 8 on).
-/
import Derived.Test.YbulkexmzaGreatRr
import Derived.Sort.QuietIn
namespace Go.Proofs.YbulkexmzaGreat
open Go.RowKit Go.Shelf

attribute [local go_sem] Oper.semAt_some

theorem St.putObj {w0 w : World} {K : Nat} {E : Nat → Nat} {B : Nat → Lb} (h : St w0 w K E B) {l : Nat} {o : Obj} (o' : Obj) (hl : w.heap[l]? = some o) (ho : o.isCells = false) (hb : w0.heap.size ≤ l) : St w0 (w.putObj l o') K E B := by
  have hg := grownBy_putObj' w l o'
  refine ⟨h.since.grown hg h.since.size (fun k e => by cases e; exact hb), fun j hj => (h.row j hj).of_block (hg.block _ (h.row j hj).lt (fun e => ?_)), h.base, h.inj⟩
  obtain ⟨c, hc, _⟩ := h.row j hj
  have e' : E j = l := by simpa using e
  rw [e', hl] at hc
  cases hc
  simp [Obj.isCells] at ho

/-- The body of a range over a function. -/
def rngAt : Code → Option Code
  | .rangeFunc _ _ _ b => some b
  | .seq a b => match rngAt a with
    | some c => some c
    | none => rngAt b
  | .block _ c => rngAt c
  | .scope c => rngAt c
  | .loop c => rngAt c
  | _ => none

/-- Between two rounds: the last k of the path are done with. -/
def Er (w0 : World) (E : Nat → Nat) (B : Nat → Lb) (m : Nat) (f : Nat → Int) (ps : List Nat) (k : Nat) (W : World) : Prop :=
  ∃ f' : Nat → Int, St w0 W 26 E (upd B 20 (arr m f')) ∧ (∀ i, i < m → -1 ≤ f' i ∧ f' i < i) ∧ (∀ i, i < m → 0 ≤ f i → 0 ≤ f' i) ∧ ∀ j, j + k < ps.length → f' (ps.getD j 0) = f (ps.getD j 0)

theorem Er.next {w0 W : World} {E : Nat → Nat} {B : Nat → Lb} {m k y a : Nat} {f f' : Nat → Int} {ps : List Nat} (hk : k < ps.length) (hnd : ps.Nodup) (hS : St w0 W 26 E (upd B 20 (arr m f'))) (hF : (∀ i, i < m → -1 ≤ f' i ∧ f' i < i) ∧ (∀ i, i < m → 0 ≤ f i → 0 ≤ f' i) ∧ ∀ j, j + k < ps.length → f' (ps.getD j 0) = f (ps.getD j 0))
    (hy : y = ps.getD (ps.length - 1 - k) 0) (hay : a < y) (ham : a < m) (hfa : 0 ≤ f' a) : Er w0 E B m f ps (k + 1) (W.setCell ⟨E 20, y, none⟩ (.int .i64 (f' a))) := by
  obtain ⟨hb, hlk, hun⟩ := hF
  refine ⟨upd f' y (f' a), ?_, fun i hi => ?_, fun i hi h0 => ?_, fun j hj => ?_⟩
  · have := hS.set 20 (by omega) (arr m (upd f' y (f' a))) (by rw [upd_same]; rfl) (by rw [upd_same]; rfl) (i := y) (v := .int .i64 (f' a)) (by show _ = _; rw [upd_same]) (fun j u hj _ hp => by
      rw [upd_same] at hp
      have hp' : u = _ := hp
      show u = _
      rw [hp', upd_other _ _ hj])
    have e : upd (upd B 20 (arr m f')) 20 (arr m (upd f' y (f' a))) = upd B 20 (arr m (upd f' y (f' a))) := by funext j; by_cases hj : j = 20 <;> simp [upd, hj]
    rwa [e] at this
  · by_cases e : i = y
    · subst e; rw [upd_same]; have := hb a ham; omega
    · rw [upd_other _ _ e]; exact hb i hi
  · by_cases e : i = y
    · subst e; rw [upd_same]; exact hfa
    · rw [upd_other _ _ e]; exact hlk i hi h0
  · have hne : ps.getD j 0 ≠ y := fun e => by
      rw [hy] at e
      have h1 : j < ps.length := by omega
      have h2 : ps.length - 1 - k < ps.length := by omega
      rw [List.getD_eq_getElem?_getD, List.getD_eq_getElem?_getD, List.getElem?_eq_getElem h1, List.getElem?_eq_getElem h2] at e
      have := (List.getElem_inj hnd).1 e
      omega
    rw [upd_other _ _ hne]
    exact hun j (by omega)

theorem Er.drew {w0 W : World} {E : Nat → Nat} {B : Nat → Lb} {m k : Nat} {f : Nat → Int} {ps : List Nat} (h : Er w0 E B m f ps k W) : Er w0 E B m f ps k W.drew := by
  obtain ⟨f', h1, h2⟩ := h
  exact ⟨f', h1.drew, h2⟩

set_option maxHeartbeats 4000000 in
set_option maxRecDepth 100000 in
/-- One round's body. -/
theorem eval_round {c5 c6 c7 c8 c10 c11 c12 c13 c14 c15 c16 c17 c18 c19 c20 c21 c22 c23 c24 c25 c26 c27 c28 c29 c30 c31 c32 c33 c34 c35 c40 c41 c42 c43 c44 c45 c46 c47 c48 c49 c50 c51 c52 c53 c54 c55 c56 c57 c58 c59 c60 c61 c62 c63 c64 c65 c66 c67 c68 c69 c70 c71 c72 c73 c74 c75 c76 : Value} {w0 w2 W : World} {E : Nat → Nat} {B : Nat → Lb} {m v k l : Nat} {f : Nat → Int} {ps : List Nat} {pa : Option Addr} {pc : Nat} (hk : k < ps.length) (hT : ∀ y ∈ ps, y < m ∧ 0 ≤ f y ∧ 0 ≤ f (f y).toNat) (hnd : ps.Nodup)
    (hb14 : B 14 = bx 46 (.slice (some ⟨E 18, 0, none⟩) m m)) (hb15 : B 15 = bx 46 (.slice (some ⟨E 19, 0, none⟩) m m)) (hb16 : B 16 = bx 46 (.slice (some ⟨E 20, 0, none⟩) m m))
    (hb18 : B 18 = ints m (fun _ => 0) (fun _ => (m : Int))) (hb19 : B 19 = ints m (fun _ => 0) (fun _ => (m : Int))) (hJ : Er w0 E B m f ps k W) :
    ((Ybaz.f59.body.bind rngAt).getD .skip).wpIn (Fence.wide.inRound l) 7 Ybaz.prog (endsIn fun W' => KeepsOthers W W' ∧ Er w0 E B m f ps (k + 1) W') ⟨#[.int .i64 (v : Nat), .pointer (some ⟨E 16, 0, none⟩), .pointer (some ⟨E 17, 0, none⟩), .pointer (some ⟨E 14, 0, none⟩), .pointer (some ⟨E 15, 0, none⟩), c5, c6, c7, c8, .int .i64 ((ps.getD (ps.length - 1 - k) 0 : Nat) : Int), c10, c11, c12, c13, c14, c15, c16, c17, c18, c19, c20, c21, c22, c23, c24, c25, c26, c27, c28, c29, c30, c31, c32, c33, c34, c35, .slice pa ps.length pc, .func (.func 85) #[] #[.pointer (some ⟨w2.heap.size, 0, none⟩)], .int .i64 ((ps.length - 1 - k : Nat) : Int), .int .i64 ((ps.getD (ps.length - 1 - k) 0 : Nat) : Int), c40, c41, c42, c43, c44, c45, c46, c47, c48, c49, c50, c51, c52, c53, c54, c55, c56, c57, c58, c59, c60, c61, c62, c63, c64, c65, c66, c67, c68, c69, c70, c71, c72, c73, c74, c75, c76], []⟩ W := by
  conv => arg 4; whnf
  obtain ⟨f', hS, hb', hlk, hun⟩ := hJ
  obtain ⟨y, hy⟩ : ∃ y, y = ps.getD (ps.length - 1 - k) 0 := ⟨_, rfl⟩
  have hyps : y ∈ ps := by
    rw [hy]
    have : ps.length - 1 - k < ps.length := by omega
    rw [List.getD_eq_getElem?_getD, List.getElem?_eq_getElem this]
    exact List.getElem_mem this
  obtain ⟨hym, hfy, hffy⟩ := hT y hyps
  have hf'y : f' y = f y := by rw [hy]; exact hun _ (by omega)
  obtain ⟨a, ha⟩ : ∃ a : Nat, f' y = a := ⟨(f' y).toNat, by omega⟩
  have hay : a < y := by have := (hb' y hym).2; omega
  have ham : a < m := by omega
  have eya : (f y).toNat = a := by omega
  rw [eya] at hffy
  have hfa : 0 ≤ f' a := hlk a ham hffy
  have k14 := hS.box (k := 14) (by omega) hb14
  have k15 := hS.box (k := 15) (by omega) hb15
  have k16 := hS.box (k := 16) (by omega) hb16
  have ky : W.cell? ⟨E 20, y, none⟩ = some (.int .i64 (a : Nat)) := by rw [← ha]; exact hS.arr (k := 20) (by omega) (upd_same _ _ _) hym
  have ka : W.cell? ⟨E 20, a, none⟩ = some (.int .i64 (f' a)) := hS.arr (k := 20) (by omega) (upd_same _ _ _) ham
  obtain ⟨la, kla, la0, la1⟩ := hS.intAt (k := 19) (by omega) hb19 ham
  obtain ⟨ly, kly, ly0, ly1⟩ := hS.intAt (k := 19) (by omega) hb19 hym
  obtain ⟨la, rfl⟩ : ∃ n : Nat, la = n := ⟨la.toNat, by omega⟩
  obtain ⟨ly, rfl⟩ : ∃ n : Nat, ly = n := ⟨ly.toNat, by omega⟩
  obtain ⟨sa, ksa, sa0, sa1⟩ := hS.intAt (k := 18) (by omega) hb18 (i := la) (by omega)
  obtain ⟨sy, ksy, sy0, sy1⟩ := hS.intAt (k := 18) (by omega) hb18 (i := ly) (by omega)
  have f19 := hS.frz 19 (by omega) y
  have f20 := hS.frz 20 (by omega) y
  have n1920 : ¬ E 20 = E 19 := fun e => by have := hS.inj 20 19 (by omega) (by omega) e; omega
  have n1620 : ¬ E 16 = E 19 := fun e => by have := hS.inj 16 19 (by omega) (by omega) e; omega
  have hyz : (y : Int) < (m : Int) := by omega
  have haz : (a : Int) < (m : Int) := by omega
  have hlaz : (la : Int) < (m : Int) := by omega
  have hlyz : (ly : Int) < (m : Int) := by omega
  rw [← hy]
  have HS : Hid (St w0 W 26 E (upd B 20 (arr m f'))) := hS
  have HF : Hid ((∀ i, i < m → -1 ≤ f' i ∧ f' i < i) ∧ (∀ i, i < m → 0 ≤ f i → 0 ≤ f' i) ∧ ∀ j, j + k < ps.length → f' (ps.getD j 0) = f (ps.getD j 0)) := ⟨hb', hlk, hun⟩
  have HY : Hid (y = ps.getD (ps.length - 1 - k) 0) := hy
  clear hS hb' hlk hun hy hT
  gi_wp2
  refine round_still (by kernel_rfl) (by kernel_rfl) (by kernel_rfl) ?_
  iterate 15 still_step
  refine wpStill_nil ?_
  by_cases hlt : sa < sy
  · have hltb : decide (sa < sy) = true := by simpa using hlt
    gi_wp2
    refine round_tail 6 (by kernel_rfl) (by kernel_rfl) (by kernel_rfl) ?_
    simp only [List.take_succ_cons, List.take_zero, List.drop_succ_cons, List.drop_zero]
    iterate 6 still_step
    refine wpStill_nil ?_
    gi_wp2
    refine round_tail 6 (by kernel_rfl) (by kernel_rfl) (by kernel_rfl) ?_
    simp only [List.take_succ_cons, List.take_zero, List.drop_succ_cons, List.drop_zero]
    iterate 6 still_step
    refine wpStill_nil ?_
    gi_wp2
    have hl : la < m := by omega
    have H1 := HS.out.put 19 (by omega) (i := y) (v := .int .i64 (la : Nat)) (by rw [upd_other _ _ (by omega), hb19]; exact ⟨la, rfl, by omega, by omega⟩)
    exact ⟨((KeepsOthers.setCell _ _ _).trans (KeepsOthers.setCell _ _ _)).trans ((KeepsOthers.drew _).trans ((KeepsOthers.drew _).trans (KeepsOthers.drew _))), (Er.next hk hnd H1 HF.out HY.out hay ham hfa).drew.drew.drew⟩
  · have hltb : decide (sa < sy) = false := by simpa using hlt
    gi_wp2
    refine round_tail 6 (by kernel_rfl) (by kernel_rfl) (by kernel_rfl) ?_
    simp only [List.take_succ_cons, List.take_zero, List.drop_succ_cons, List.drop_zero]
    iterate 6 still_step
    refine wpStill_nil ?_
    gi_wp2
    exact ⟨(KeepsOthers.setCell _ _ _).trans ((KeepsOthers.drew _).trans (KeepsOthers.drew _)), (Er.next hk hnd HS.out HF.out HY.out hay ham hfa).drew.drew⟩
end Go.Proofs.YbulkexmzaGreat
