/-
  THE WALKS over chunked.Slice's Append (13), Graph.add (10), Graph.Add (4).
-/
import Derived.Test.YbulkexmymExt2
import Derived.Deep.RegionWith
import Derived.Deep.QuietTactic
import Derived.BigQuiet
import Derived.StillTailTactics
namespace Go.Proofs.Ybulkexmym
open Go.RowKit

attribute [local go_sem] Go.wp_at_zero Go.wp_at_succ

variable {w w1 : World} {L L1 : Nat → Nat × Nat} {B gb : Nat} {un : Value} {ln n : Nat} {ob : Nat → Ob} {pv : Nat → Value} {C : Nat → Nat} {nc : Nat} {cv : Value}

theorem set9 (w : World) (b o : Nat) (c0 c1 c2 c3 c4 c5 c6 c7 c8 : Value) :
    (((((((((w.setCell ⟨b, o, none⟩ c0).setCell ⟨b, o + 1, none⟩ c1).setCell ⟨b, o + 2, none⟩ c2).setCell ⟨b, o + 3, none⟩ c3).setCell ⟨b, o + 4, none⟩ c4).setCell ⟨b, o + 5, none⟩ c5).setCell ⟨b, o + 6, none⟩ c6).setCell ⟨b, o + 7, none⟩ c7).setCell ⟨b, o + 8, none⟩ c8).drew =
      w.drew.setCells b o [c0, c1, c2, c3, c4, c5, c6, c7, c8] := by
  simp only [World.setCells, World.setCell_drew, Nat.add_assoc, Nat.reduceAdd]

set_option maxRecDepth 100000 in
set_option maxHeartbeats 1000000 in
theorem append_any (h : GInv w L B gb un n n ob pv C nc cv) (hmax : n < 65540) (d : ByteArray) (wh pt : Int) :
    Calls Yba.prog 13 #[.pointer (some ⟨gb, 0, none⟩), .agg #[.string d, .int .i32 wh, .int .i32 pt, .slice none 0 0, .bool false, .bool false, .slice none 0 0, .slice none 0 0, .int .i32 0]] w fun e w' =>
      e = .returned (.tuple #[]) ∧ ∃ w2 L' C' nc' cv', Grew w L C nc w2 L' C' nc' ∧ GInv w2 L' B gb un (n + 1) n ob pv C' nc' cv' ∧
        w' = w2.setCells (C' (n / 1024)) (n % 1024 * 9) [.string d, .int .i32 wh, .int .i32 pt, .slice none 0 0, .bool false, .bool false, .slice none 0 0, .slice none 0 0, .int .i32 0] := by
  have H0 : Hid (GInv (w.alloc (.cells #[.string d, .int .i32 wh, .int .i32 pt, .slice none 0 0, .bool false, .bool false, .slice none 0 0, .slice none 0 0, .int .i32 0] 42)) (upd L w.heap.size (0, 0)) B gb un n n ob pv C nc cv) :=
    h.keep (T := fun _ => False) ((Keep.refl L _ w).alloc _) (Agree.upd w L _ (Nat.le_refl _)) (fun _ x => x.elim)
  have h1 : w.cell? ⟨gb, 1, none⟩ = some (.int .i64 n) := h.g1
  have hgs := h.gs
  clear h
  go_enter Yba.func13, Yba.ntmps13
  go_wp2_with fail
  refine (ext_any H0.out hmax).mono ?_
  rintro e w1 ⟨rfl, L', C', nc', cv', hG, hI⟩
  have HG : Hid _ := hG
  have HI : Hid _ := hI
  have k1 : w1.cell? ⟨gb, 1, none⟩ = some (.int .i64 ((n : Int) + 1)) := by have := hI.g1; simpa using this
  have hnc : n < nc' * 1024 := by have := hI.nle; omega
  have HID : Hid (GInv w1.drew L' B gb un (n + 1) n ob pv C' nc' cv') := hI.keep (T := fun _ => False) ((Keep.refl _ _ w1).drew) (Agree.refl _ _) (fun _ x => x.elim)
  have hbox : w1.rangeAt w.heap.size 0 [.string d, .int .i32 wh, .int .i32 pt, .slice none 0 0, .bool false, .bool false, .slice none 0 0, .slice none 0 0, .int .i32 0] :=
    hG.keep.range (World.rangeAt_of_block (heap_alloc_new w _) 0 9) (by rw [upd_same]; simp [Tg])
  have hth : w1.there (C' (n / 1024)) (n % 1024 * 9) 9 := fun j hj => by
    have := hI.ct (n / 1024) (by omega) (n % 1024 * 9 + j) (by omega)
    simpa using this
  have b0 : w1.cell? ⟨w.heap.size, 0, none⟩ = some (.string d) := by simpa using hbox 0 _ rfl
  have b1 : w1.cell? ⟨w.heap.size, 1, none⟩ = some (.int .i32 wh) := by simpa using hbox 1 _ rfl
  have b2 : w1.cell? ⟨w.heap.size, 2, none⟩ = some (.int .i32 pt) := by simpa using hbox 2 _ rfl
  have b3 : w1.cell? ⟨w.heap.size, 3, none⟩ = some (.slice none 0 0) := by simpa using hbox 3 _ rfl
  have b4 : w1.cell? ⟨w.heap.size, 4, none⟩ = some (.bool false) := by simpa using hbox 4 _ rfl
  have b5 : w1.cell? ⟨w.heap.size, 5, none⟩ = some (.bool false) := by simpa using hbox 5 _ rfl
  have b6 : w1.cell? ⟨w.heap.size, 6, none⟩ = some (.slice none 0 0) := by simpa using hbox 6 _ rfl
  have b7 : w1.cell? ⟨w.heap.size, 7, none⟩ = some (.slice none 0 0) := by simpa using hbox 7 _ rfl
  have b8 : w1.cell? ⟨w.heap.size, 8, none⟩ = some (.int .i32 0) := by simpa using hbox 8 _ rfl
  obtain ⟨u0, t0⟩ := Option.isSome_iff_exists.1 (hth 0 (by omega)).1
  have f0 := (hth 0 (by omega)).2
  obtain ⟨u1, t1⟩ := Option.isSome_iff_exists.1 (hth 1 (by omega)).1
  have f1 := (hth 1 (by omega)).2
  obtain ⟨u2, t2⟩ := Option.isSome_iff_exists.1 (hth 2 (by omega)).1
  have f2 := (hth 2 (by omega)).2
  obtain ⟨u3, t3⟩ := Option.isSome_iff_exists.1 (hth 3 (by omega)).1
  have f3 := (hth 3 (by omega)).2
  obtain ⟨u4, t4⟩ := Option.isSome_iff_exists.1 (hth 4 (by omega)).1
  have f4 := (hth 4 (by omega)).2
  obtain ⟨u5, t5⟩ := Option.isSome_iff_exists.1 (hth 5 (by omega)).1
  have f5 := (hth 5 (by omega)).2
  obtain ⟨u6, t6⟩ := Option.isSome_iff_exists.1 (hth 6 (by omega)).1
  have f6 := (hth 6 (by omega)).2
  obtain ⟨u7, t7⟩ := Option.isSome_iff_exists.1 (hth 7 (by omega)).1
  have f7 := (hth 7 (by omega)).2
  obtain ⟨u8, t8⟩ := Option.isSome_iff_exists.1 (hth 8 (by omega)).1
  have f8 := (hth 8 (by omega)).2
  simp only [Nat.add_zero] at t0 f0
  have hne1 : w.heap.size ≠ C' (n / 1024) := by have := (hI.cl (n / 1024) (by omega)).1; intro e; rw [← e, hG.agree _ (by simp), upd_same] at this; simp at this
  have hne2 : gb ≠ C' (n / 1024) := by have := (hI.cl (n / 1024) (by omega)).1; intro e; rw [← e, hI.gl] at this; simp at this
  have hwn : IntKind.i64.wrap (n : Int) = (n : Int) := by rw [IntKind.wrap_i64]; omega
  clear hG hI hbox hth
  go_wp2_with fail
  refine wp_region_still_tail 9 (by kernel_rfl) (by kernel_rfl) ?_
  simp only [List.take_succ_cons, List.take_zero, List.drop_succ_cons, List.drop_zero]
  iterate 6 still_step
  still_call (at_any HID.out n hnc)
  iterate 2 still_step
  refine wpStill_nil ?_
  go_wp2_with fail
  go_end0
  have hA := Agree.upd w L (0, 0) (Nat.le_refl w.heap.size)
  exact ⟨rfl, w1.drew, L', C', nc', cv', ⟨hA.trans (by simp) HG.out.agree, HG.out.same, HG.out.le, (((Keep.refl L Tg w).alloc _).trans hA HG.out.keep).drew⟩, HID.out, set9 w1 _ _ _ _ _ _ _ _ _ _ _⟩

/-- The new object, known. -/
theorem GInv.put (h : GInv w L B gb un (n + 1) n ob pv C nc cv) (d : ByteArray) (wh pt : Nat) :
    GInv (w.setCells (C (n / 1024)) (n % 1024 * 9) [.string d, .int .i32 wh, .int .i32 pt, .slice none 0 0, .bool false, .bool false, .slice none 0 0, .slice none 0 0, .int .i32 0]) L B gb un (n + 1) (n + 1)
      (fun i => if i = n then ⟨d, wh, pt, []⟩ else ob i) (fun i => if i = n then .slice none 0 0 else pv i) C nc cv ∧
    Keep L (fun l => l = (3, n / 1024)) w (w.setCells (C (n / 1024)) (n % 1024 * 9) [.string d, .int .i32 wh, .int .i32 pt, .slice none 0 0, .bool false, .bool false, .slice none 0 0, .slice none 0 0, .int .i32 0]) := by
  have hnc : n / 1024 < nc := by have := h.nle; omega
  have hl := (h.cl _ hnc).1
  have k : Keep L (fun l => l = (3, n / 1024)) w (w.setCells (C (n / 1024)) (n % 1024 * 9) [.string d, .int .i32 wh, .int .i32 pt, .slice none 0 0, .bool false, .bool false, .slice none 0 0, .slice none 0 0, .int .i32 0]) :=
    (Keep.refl L _ w).setCells hl _ _
  have hg : L gb ≠ (3, n / 1024) := by rw [h.gl]; simp
  have hinj : ∀ c, c < nc → C c = C (n / 1024) → c = n / 1024 := fun c hc e => by
    have := (h.cl c hc).1
    rw [e, hl] at this
    simpa using this.symm
  refine ⟨⟨k.cell_of h.g0 hg, k.cell_of h.g1 hg, k.cell_of h.g2 hg, k.cell_of h.g3 hg, fun o ho => (k.frozen (a := ⟨gb, o, none⟩) h.gs hg).trans (h.gf o ho), h.gl, h.gB, Nat.lt_of_lt_of_le h.gs k.size,
    h.cr.keep k (Agree.refl _ _) (by simp), fun c hc => ⟨(h.cl c hc).1, (h.cl c hc).2.1, Nat.lt_of_lt_of_le (h.cl c hc).2.2 k.size⟩, fun c hc => World.there_setCells (h.ct c hc) _ _ _,
    h.nle, h.ncle, Nat.le_refl _, h.max, fun i hi => ?_, fun i hi => ?_, fun i hi j q hj => ?_, fun i hi => ?_⟩, k⟩
  · by_cases hin : i = n
    · subst hin
      simp only [if_true]
      refine World.rangeAt_setCells_same w _ _ _ (fun j hj => ?_)
      have := h.ct (i / 1024) hnc (i % 1024 * 9 + j) (by simp at hj; omega)
      simpa using this
    · simp only [if_neg hin]
      refine World.rangeAt_setCells_apart (h.oc i (by omega)) _ _ _ ?_
      by_cases hb : C (i / 1024) = C (n / 1024)
      · have he := hinj (i / 1024) (by have := h.nle; omega) hb
        right
        simp only [obCells, List.length_cons, List.length_nil]
        omega
      · exact .inl hb
  · by_cases hin : i = n
    · simp only [if_pos hin]; exact Row.nil _ _ _ _ _
    · simp only [if_neg hin]; exact (h.pr i (by omega)).keep k (Agree.refl _ _) (by simp)
  · by_cases hin : i = n
    · simp [hin] at hj
    · simp only [if_neg hin] at hj ⊢
      have := h.ph i (by omega) j q hj
      rw [if_neg (by omega)]
      exact ⟨by omega, this.2⟩
  · by_cases hin : i = n
    · simp [hin]
    · simp only [if_neg hin]; have := h.pb i (by omega); omega

/-- What adds one object. -/
def Added (w : World) (L : Nat → Nat × Nat) (B gb : Nat) (un : Value) (n : Nat) (ob : Nat → Ob) (pv : Nat → Value) (C : Nat → Nat) (nc : Nat) (o : Ob) (w' : World) : Prop :=
  ∃ L' C' nc' cv', Grew w L C nc w' L' C' nc' ∧ GInv w' L' B gb un (n + 1) (n + 1) (fun i => if i = n then o else ob i) (fun i => if i = n then .slice none 0 0 else pv i) C' nc' cv'

theorem append_added (h : GInv w L B gb un n n ob pv C nc cv) (hmax : n < 65540) (d : ByteArray) (wh pt : Nat) :
    Calls Yba.prog 13 #[.pointer (some ⟨gb, 0, none⟩), .agg #[.string d, .int .i32 wh, .int .i32 pt, .slice none 0 0, .bool false, .bool false, .slice none 0 0, .slice none 0 0, .int .i32 0]] w fun e w' =>
      e = .returned (.tuple #[]) ∧ Added w L B gb un n ob pv C nc ⟨d, wh, pt, []⟩ w' := by
  refine (append_any h hmax d wh pt).mono ?_
  rintro e w' ⟨rfl, w2, L', C', nc', cv', hG, hI, rfl⟩
  obtain ⟨h1, h2⟩ := hI.put d wh pt
  exact ⟨rfl, L', C', nc', cv', ⟨hG.agree, hG.same, hG.le, hG.keep.trans hG.agree (h2.mono (fun l hl => by rw [hl]; exact ⟨by simp, by simp⟩))⟩, h1⟩
end Go.Proofs.Ybulkexmym
