/-
  THE WALK over Graph.AddPart (5).
-/
import Derived.Test.YbulkexmymOne
import Derived.Test.YbulkexmymChange
import Derived.Deep.DeepCutAuto
namespace Go.Proofs.Ybulkexmym
open Go.RowKit

variable {w w1 w2 w3 : World} {L L1 L2 L3 : Nat → Nat × Nat} {B gb : Nat} {un : Value} {ln n : Nat} {ob : Nat → Ob} {pv : Nat → Value} {C : Nat → Nat} {nc : Nat} {cv : Value}

def morePart (ob : Nat → Ob) (i p : Nat) : Nat → Ob := fun j => if j = i then { ob i with parts := (ob i).parts ++ [p] } else ob j
theorem morePart_part (ob : Nat → Ob) (i p j : Nat) : (morePart ob i p j).part = (ob j).part := by
  unfold morePart; split
  · rename_i h; rw [h]
  · rfl

/-- Object i's parts have one more. -/
theorem GInv.more (h : GInv w L B gb un n n ob pv C nc cv) {i p : Nat} (hi : i < n) (k : Keep L (fun l => l = (4, i)) w w3) (ha : Agree w L L3) {v : Value}
    (hrow : Row w3 L3 (4, i) B 37 v (ids ((ob i).parts ++ [p]))) (hp : p < n) (hpp : (ob p).part = (ob i).parts.length + 1) (hpb : (ob i).parts.length + 1 ≤ n) :
    GInv (w3.setCell ⟨C (i / 1024), i % 1024 * 9 + 3, none⟩ v) L3 B gb un n n (morePart ob i p) (fun j => if j = i then v else pv j) C nc cv ∧
      Keep L (fun l => l = (4, i) ∨ l = (3, i / 1024)) w (w3.setCell ⟨C (i / 1024), i % 1024 * 9 + 3, none⟩ v) := by
  have hic : i / 1024 < nc := by have := h.nle; omega
  have hl := (h.cl _ hic).1
  have hl3 : L3 (C (i / 1024)) = (3, i / 1024) := (ha _ (h.cl _ hic).2.2).trans hl
  have hg : L gb ≠ (4, i) := by rw [h.gl]; simp
  have hc4 : ∀ c, c < nc → L (C c) ≠ (4, i) := fun c hc => by rw [(h.cl c hc).1]; simp
  have hinj : ∀ c, c < nc → C c = C (i / 1024) → c = i / 1024 := fun c hc e => by
    have := (h.cl c hc).1
    rw [e, hl] at this
    simpa using this.symm
  -- the store
  have k3 : Keep L3 (fun l => l = (3, i / 1024)) w3 (w3.setCell ⟨C (i / 1024), i % 1024 * 9 + 3, none⟩ v) := (Keep.refl L3 _ w3).setCell (a := ⟨C (i / 1024), _, none⟩) hl3 _
  have hg3 : L3 gb ≠ (3, i / 1024) := by rw [ha gb h.gs, h.gl]; simp
  have hgs3 : gb < w3.heap.size := Nat.lt_of_lt_of_le h.gs k.size
  have kk : Keep L (fun l => l = (4, i) ∨ l = (3, i / 1024)) w (w3.setCell ⟨C (i / 1024), i % 1024 * 9 + 3, none⟩ v) := (k.mono (fun l hl => .inl hl)).trans ha (k3.mono (fun l hl => .inr hl))
  have hsz : w.heap.size ≤ (w3.setCell ⟨C (i / 1024), i % 1024 * 9 + 3, none⟩ v).heap.size := kk.size
  refine ⟨⟨k3.cell_of (k.cell_of h.g0 hg) hg3, k3.cell_of (k.cell_of h.g1 hg) hg3, k3.cell_of (k.cell_of h.g2 hg) hg3, k3.cell_of (k.cell_of h.g3 hg) hg3,
    fun o ho => (k3.frozen (a := ⟨gb, o, none⟩) hgs3 hg3).trans ((k.frozen (a := ⟨gb, o, none⟩) h.gs hg).trans (h.gf o ho)), (ha gb h.gs).trans h.gl, h.gB, Nat.lt_of_lt_of_le h.gs hsz,
    (h.cr.keep k ha (by simp)).keep k3 (Agree.refl _ _) (by simp), fun c hc => ⟨(ha _ (h.cl c hc).2.2).trans (h.cl c hc).1, (h.cl c hc).2.1, Nat.lt_of_lt_of_le (h.cl c hc).2.2 hsz⟩,
    fun c hc => ?_, h.nle, h.ncle, Nat.le_refl _, h.max, fun j hj => ?_, fun j hj => ?_, fun j hj q p' hq => ?_, fun j hj => ?_⟩, kk⟩
  · exact World.there_setCells (k.there (h.cl c hc).2.2 (h.ct c hc) (hc4 c hc)) _ _ [v]
  · have hjc : j / 1024 < nc := by have := h.nle; omega
    have hr := k.range (h.oc j hj) (hc4 _ hjc)
    by_cases e : j = i
    · subst e
      simp only [morePart, if_true]
      intro q u hu
      by_cases eq : q = 3
      · subst eq
        simp only [obCells] at hu
        have hu' : v = u := by simpa using hu
        subst hu'
        exact set_eq (hr 3 _ rfl)
      · rw [World.cell?_setCell_other _ _ _ _ (fun e => by have := congrArg Addr.off e; simp at this; omega)]
        refine hr q u ?_
        match q, eq, hu with
        | 0, _, hu => exact hu
        | 1, _, hu => exact hu
        | 2, _, hu => exact hu
        | 4, _, hu => exact hu
        | 5, _, hu => exact hu
        | 6, _, hu => exact hu
        | 7, _, hu => exact hu
        | 8, _, hu => exact hu
        | q + 9, _, hu => simp [obCells] at hu
    · simp only [morePart, if_neg e]
      intro q u hu
      have hq : q < 9 := by
        rcases Nat.lt_or_ge q 9 with h9 | h9
        · exact h9
        · rw [List.getElem?_eq_none (by simpa [obCells] using h9)] at hu; cases hu
      rw [World.cell?_setCell_other _ _ _ _ (fun e2 => by
        have e3 := congrArg Addr.block e2
        have e4 := congrArg Addr.off e2
        simp only at e3 e4
        have := hinj _ hjc e3.symm
        omega)]
      exact hr q u hu
  · by_cases e : j = i
    · subst e
      simp only [morePart, if_true]
      exact hrow.keep k3 (Agree.refl _ _) (by simp)
    · simp only [morePart, if_neg e]
      exact ((h.pr j hj).keep k ha (by simpa using e)).keep k3 (Agree.refl _ _) (by simp)
  · rw [morePart_part]
    by_cases e : j = i
    · subst e
      simp only [morePart, if_true] at hq
      rcases Nat.lt_or_ge q (ob j).parts.length with hlt | hge
      · rw [List.getElem?_append_left hlt] at hq
        exact h.ph j hj q p' hq
      · rw [List.getElem?_append_right hge] at hq
        have hq0 : q - (ob j).parts.length = 0 := by
          rcases Nat.eq_zero_or_pos (q - (ob j).parts.length) with h0 | h0
          · exact h0
          · rw [List.getElem?_eq_none (by simp; omega)] at hq; cases hq
        rw [hq0] at hq
        have hpq : p = p' := by simpa using hq
        subst hpq
        exact ⟨hp, by rw [hpp]; omega⟩
    · simp only [morePart, if_neg e] at hq
      exact h.ph j hj q p' hq
  · by_cases e : j = i
    · subst e; simp [morePart]; omega
    · simp only [morePart, if_neg e]; exact h.pb j hj

theorem Yba.info37 : (Yba.prog.info? 37).map (fun i => (i.zero, i.size, i.bytes)) = some (some (.int .i32 0), 1, 4) := by kernel_rfl

/-- AddPart's new object. -/
def partOb (ob : Nat → Ob) (n i : Nat) (d : ByteArray) : Nat → Ob := morePart (fun j => if j = n then ⟨d, i, (ob i).parts.length + 1, []⟩ else ob j) i n

/-- What AddPart leaves: the parts' old array too. -/
def Parted (w : World) (L : Nat → Nat × Nat) (B gb : Nat) (un : Value) (n : Nat) (ob : Nat → Ob) (pv : Nat → Value) (C : Nat → Nat) (nc : Nat) (i : Nat) (d : ByteArray) (w' : World) : Prop :=
  ∃ L' C' nc' cv' pv', Grew w L C nc w' L' C' nc' ∧ GInv w' L' B gb un (n + 1) (n + 1) (partOb ob n i d) pv' C' nc' cv' ∧
    ∀ g0, (pv i).ownBlock = some g0 → ∀ j u, (ids (ob i).parts)[j]? = some u → w'.cell? ⟨g0, j, none⟩ = some u

theorem ids_append (l : List Nat) (p : Nat) : ids (l ++ [p]) = ids l ++ [.int .i32 p] := by simp [ids]
theorem ids_length (l : List Nat) : (ids l).length = l.length := by simp [ids]

/-- .. put together, once the new object is there. -/
theorem parted (h : GInv w L B gb un n n ob pv C nc cv) {i : Nat} (hi : i < n) {d : ByteArray} {L2 C2 nc2 cv2} (hG : Grew w L C nc w2 L2 C2 nc2)
    (hI : GInv w2 L2 B gb un (n + 1) (n + 1) (fun j => if j = n then ⟨d, i, (ob i).parts.length + 1, []⟩ else ob j) (fun j => if j = n then .slice none 0 0 else pv j) C2 nc2 cv2) {g cap : Nat}
    (hrow : Row w3 (upf (upd L2 w2.heap.size (0, 0)) (w2.heap.size + 1) (4, i)) (4, i) B 37 (.slice (some ⟨g, 0, none⟩) ((ids (ob i).parts).length + 1) cap) (ids (ob i).parts ++ [.int .i32 n]))
    (k : Keep (upd L2 w2.heap.size (0, 0)) (fun l => l = (4, i)) (w2.alloc (.cells #[.int .i32 n] 37)) w3)
    (hold : ∀ g0, (pv i).ownBlock = some g0 → ∀ j u, (ids (ob i).parts)[j]? = some u → w3.cell? ⟨g0, j, none⟩ = some u) :
    Parted w L B gb un n ob pv C nc i d (w3.setCell ⟨C2 (i / 1024), i % 1024 * 9 + 3, none⟩ (.slice (some ⟨g, 0, none⟩) ((ids (ob i).parts).length + 1) cap)) := by
  have a1 : Agree w2 L2 (upd L2 w2.heap.size (0, 0)) := Agree.upd w2 L2 _ (Nat.le_refl _)
  have a2 : Agree w2 L2 (upf (upd L2 w2.heap.size (0, 0)) (w2.heap.size + 1) (4, i)) := a1.trans (Nat.le_refl _) (Agree.upf w2 _ _ (by omega))
  have k2 : Keep L2 (fun l => l = (4, i)) w2 w3 := ((Keep.refl L2 (fun l => l = (4, i)) w2).alloc (.cells #[.int .i32 n] 37)).trans a1 (by
    exact k)
  have hin : ¬ i = n := by omega
  have := hI.more (i := i) (p := n) (by omega) k2 a2 (v := .slice (some ⟨g, 0, none⟩) ((ids (ob i).parts).length + 1) cap) (by simp only [if_neg hin]; rw [ids_append]; exact hrow) (by omega) (by simp [hin]) (by simp only [if_neg hin]; have := h.pb i hi; omega)
  obtain ⟨hI3, k3⟩ := this
  refine ⟨_, C2, nc2, cv2, _, ⟨hG.agree.trans hG.keep.size a2, hG.same, hG.le, hG.keep.trans hG.agree (k3.mono (fun l hl => by rcases hl with rfl | rfl <;> exact ⟨by simp, by simp⟩))⟩, hI3, fun g0 hg0 j u hu => ?_⟩
  have hc := hold g0 hg0 j u hu
  have hlab : L g0 = (4, i) := (h.pr i hi).lab g0 hg0
  have hlt : g0 < w.heap.size := (World.ownsRow.lt (h.pr i hi).own g0 hg0).2
  have hic : i / 1024 < nc2 := by have := hI.nle; omega
  rw [World.cell?_setCell_other _ _ _ _ (fun e => by
    have e3 := congrArg Addr.block e
    simp only at e3
    have h1 := (hI.cl _ hic).1
    rw [e3, hG.agree g0 hlt, hlab] at h1
    simp at h1)]
  exact hc

set_option maxRecDepth 100000 in
set_option maxHeartbeats 1000000 in
theorem addPart_any (i : Nat) (hch : Calls Yba.prog 11 #[.pointer (some ⟨gb, 0, none⟩), .int .i32 i] w fun e w' => e = .returned (.pointer (some ⟨C (i / 1024), i % 1024 * 9, none⟩)) ∧ w' = w1)
    (h : GInv w1 L B gb un n n ob pv C nc cv) (hmax : n < 65540) (hi : i < n) (hw : (ob i).whole = i) (d : ByteArray) :
    Calls Yba.prog 5 #[.pointer (some ⟨gb, 0, none⟩), .int .i32 i, .string d] w fun e w' => e = .returned (.int .i32 n) ∧ Parted w1 L B gb un n ob pv C nc i d w' := by
  obtain ⟨i0, hi0, hz0, hz1, hz2⟩ := info_parts Yba.info37
  have H : Hid _ := h
  have HC : Hid _ := hch
  have hoc := h.oc i hi
  have o1 : w1.cell? ⟨C (i / 1024), i % 1024 * 9 + 1, none⟩ = some (.int .i32 i) := by have := hoc 1 _ rfl; rw [hw] at this; exact this
  have o3 : w1.cell? ⟨C (i / 1024), i % 1024 * 9 + 3, none⟩ = some (pv i) := hoc 3 _ rfl
  have hpb := h.pb i hi
  obtain ⟨pa, pc, hpv⟩ : ∃ a c, pv i = .slice a (ob i).parts.length c := by
    rcases (h.pr i hi).form with ⟨q1, q2⟩ | ⟨g, cap, q1, _⟩
    · have q3 : (ob i).parts.length = 0 := by rw [← ids_length, q2]; rfl
      exact ⟨_, _, by rw [q1, q3]⟩
    · rw [ids_length] at q1; exact ⟨_, _, q1⟩
  have HV : Hid (pv i = .slice pa (ob i).parts.length pc) := hpv
  have hlast : ∀ m, (ob i).parts.length = m + 1 → ∃ g p, pa = some ⟨g, 0, none⟩ ∧ w1.cell? ⟨g, m, none⟩ = some (.int .i32 (p : Nat)) ∧ p < n ∧ w1.cell? ⟨C (p / 1024), p % 1024 * 9 + 2, none⟩ = some (.int .i32 ((m : Int) + 1)) := by
    intro m hm
    rcases (h.pr i hi).form with ⟨_, q2⟩ | ⟨g, cap, q1, _⟩
    · have q3 : (ob i).parts.length = 0 := by rw [← ids_length, q2]; rfl
      omega
    · have hr := h.pr i hi
      rw [q1] at hr
      have hml : m < (ids (ob i).parts).length := by rw [ids_length]; omega
      have hmp : m < (ob i).parts.length := by omega
      have hc := hr.cell m hml
      have hph := h.ph i hi m (ob i).parts[m] (by simp [hmp])
      refine ⟨g, (ob i).parts[m], ?_, by rw [hc]; simp [ids], hph.1, ?_⟩
      · rw [hpv] at q1; simp at q1; exact q1.1
      · have := h.oc _ hph.1 2 _ rfl
        rw [this, hph.2]; simp
  have hnle := h.nle
  rw [hpv] at o3
  have HB : Hid (B ≤ w1.heap.size) := by have := h.gB; have := h.gs; show B ≤ w1.heap.size; omega
  have hmx := h.max
  clear h hch hoc hpv hw
  obtain ⟨N, hN⟩ : ∃ N, (ob i).parts.length = N := ⟨_, rfl⟩
  rw [hN] at o3 hpb HV
  simp only [hN] at hlast
  have HN : Hid ((ob i).parts.length = N) := hN
  clear hN
  go_enter Yba.func5, Yba.ntmps5
  go_upto_if 27 with (go_at_call 11; refine Calls.mono HC.out ?_; rintro e w' ⟨rfl, hw⟩; have hw' := hw.symm; clear hw; subst hw')
  go_cut [8] (fun s8 wx => w1 = wx ∧ ∃ pt : Nat, s8 = .int .i32 pt ∧ pt = N + 1)
  case first =>
    cases N with
    | zero =>
      go_wp2
      go_meet
      exact ⟨rfl, 1, rfl, rfl⟩
    | succ m =>
      obtain ⟨g, p, rfl, c1, hp, c2⟩ := hlast m rfl
      clear hlast
      have hpos : (0 : Int) < ((m + 1 : Nat) : Int) := by omega
      have hpc : p < nc * 1024 := by omega
      have hsub : ((m + 1 : Nat) : Int) - 1 = (m : Int) := by omega
      go_wp2_with (go_at_call 8; refine (object_any H.out p hpc).mono ?_; rintro e w' ⟨rfl, hw⟩; cases hw)
      go_meet
      exact ⟨rfl, m + 1 + 1, by simp, rfl⟩
  case rest =>
    obtain ⟨rfl, pt, rfl, hpt⟩ := hcut
    have HP : Hid (pt = N + 1) := hpt
    clear hlast hpt
    go_upto_region 9 with (go_at_call 10; refine (add_any H.out hmax d i pt).mono ?_; rintro e w2 ⟨rfl, hA⟩)
    obtain ⟨L2, C2, nc2, cv2, hG, hI⟩ := hA
    have hic : i / 1024 < nc := by have := H.out.nle; omega
    have hin : ¬ i = n := by omega
    have HR : Hid (Row (w2.alloc (.cells #[.int .i32 n] 37)) (upd L2 w2.heap.size (0, 0)) (4, i) B 37 (.slice pa N pc) (ids (ob i).parts)) := by
      have := (hI.pr i (by omega)).keep (T := fun _ => False) ((Keep.refl L2 _ w2).alloc (.cells #[.int .i32 n] 37)) (Agree.upd w2 L2 (0, 0) (Nat.le_refl _)) (fun x => x)
      simp only [if_neg hin] at this
      rw [HV.out] at this
      exact this
    have hrange := hI.oc i (by omega)
    simp only [if_neg hin] at hrange
    have c3 : w2.cell? ⟨C (i / 1024), i % 1024 * 9 + 3, none⟩ = some (.slice pa N pc) := by
      have := hrange 3 _ rfl
      rw [hG.same _ hic, HV.out] at this
      exact this
    have hCs : C (i / 1024) < w2.heap.size := World.block_lt_of_cell? _ _ c3
    have f3 : w2.frozen? ⟨C (i / 1024), i % 1024 * 9 + 3, none⟩ = false := by
      have := (hI.ct (i / 1024) (by have := hG.le; omega) (i % 1024 * 9 + 3) (by omega)).2
      rw [hG.same _ hic] at this
      simpa using this
    have hlabC : upd L2 w2.heap.size (0, 0) (C (i / 1024)) = (3, i / 1024) := by
      rw [Agree.upd w2 L2 (0, 0) (Nat.le_refl _) _ hCs, ← hG.same _ hic]; exact (hI.cl _ (by have := hG.le; omega)).1
    have HL : Hid (upd L2 w2.heap.size (0, 0) (C (i / 1024)) = (3, i / 1024)) := hlabC
    have HG : Hid (Grew w1 L C nc w2 L2 C2 nc2) := hG
    have HI : Hid _ := hI
    have hb2 : B ≤ w2.heap.size := Nat.le_trans HB.out hG.keep.size
    clear hG hI hrange hlabC
    have hlen : (ids (ob i).parts).length ≤ 100000 := by rw [ids_length, HN.out]; omega
    have hb3 : B ≤ (w2.alloc (.cells #[.int .i32 n] 37)).heap.size := by simp; omega
    have HN2 : Hid ((w2.alloc (.cells #[.int .i32 n] 37)).cell? ⟨w2.heap.size, 0, none⟩ = some (.int .i32 n)) := World.cell?_alloc_at #[_] 37 _ 0 (by simp)
    go_wp2_with (at_builtin; refine append_keep rfl (.tmp 52) (.tmp 54) 32 rfl (upd L2 w2.heap.size (0, 0)) (4, i) B 37 i0 (.int .i32 0) 4 Yba.underlying32 hi0 hz0 hz1 hz2 rfl (.slice pa N pc) (ids (ob i).parts) rfl HR.out ⟨w2.heap.size, 0, none⟩ (.int .i32 n) rfl HN2.out rfl hlen (by omega) hb3 ?_; intro g cap w3 hrow hkeep hold; have HROW : Hid _ := hrow; have HKEEP : Hid _ := hkeep; have HOLD : Hid _ := hold; have c4 := hkeep.cell_of (a := ⟨C (i / 1024), i % 1024 * 9 + 3, none⟩) (alloc_cell hCs c3) (by rw [HL.out]; simp); have f4 := (hkeep.frozen (a := ⟨C (i / 1024), i % 1024 * 9 + 3, none⟩) (alloc_lt hCs) (by rw [HL.out]; simp)).trans (alloc_free hCs f3); clear hrow hkeep hold)
    go_ret
    refine ⟨rfl, ?_⟩
    have hI' := HI.out
    have hptN : pt = (ob i).parts.length + 1 := by rw [HN.out]; exact HP.out
    rw [hptN] at hI'
    have := parted H.out hi HG.out hI' (by have := HROW.out; rwa [show (w2.alloc (.cells #[.int .i32 n] 37)).heap.size = w2.heap.size + 1 by simp] at this) HKEEP.out (fun g0 hg0 => HOLD.out g0 (by rw [← HV.out]; exact hg0))
    rw [HG.out.same _ hic] at this
    exact this
end Go.Proofs.Ybulkexmym
