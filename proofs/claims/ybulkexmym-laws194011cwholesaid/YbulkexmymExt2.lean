/-
  Extend (15), in the graph's own terms.
-/
import Derived.Test.YbulkexmymExt
namespace Go.Proofs.Ybulkexmym
open Go.RowKit

variable {w w1 : World} {L L1 : Nat → Nat × Nat} {B gb : Nat} {un : Value} {ln n : Nat} {ob : Nat → Ob} {pv : Nat → Value} {C : Nat → Nat} {nc : Nat} {cv : Value}

/-- The graph's struct and its chunks' own slice may have turned; the chunks not. -/
theorem GInv.turn (h : GInv w L B gb un ln n ob pv C nc cv) {T : Nat × Nat → Prop} (k : Keep L T w w1) (ha : Agree w L L1) (ht : ∀ l, T l → l = (1, 0) ∨ l = (2, 0) ∨ 5 ≤ l.1)
    {un' : Value} {ln' : Nat} {C' : Nat → Nat} {nc' : Nat} {cv' : Value}
    (g0 : w1.cell? ⟨gb, 0, none⟩ = some cv') (g1 : w1.cell? ⟨gb, 1, none⟩ = some (.int .i64 ln')) (g2 : w1.cell? ⟨gb, 2, none⟩ = some (.slice none 0 0)) (g3 : w1.cell? ⟨gb, 3, none⟩ = some un')
    (gf : ∀ o, o < 4 → w1.frozen? ⟨gb, o, none⟩ = false) (cr : Row w1 L1 (2, 0) B 56 cv' (chunkVals C' nc'))
    (hC : ∀ c, c < nc → C' c = C c) (hnew : ∀ c, nc ≤ c → c < nc' → L1 (C' c) = (3, c) ∧ B ≤ C' c ∧ C' c < w1.heap.size ∧ w1.there (C' c) 0 9216)
    (nle : ln' ≤ nc' * 1024) (ncle : nc' * 1024 < ln' + 1024) (nln : n ≤ ln') (max : ln' ≤ 65540) : GInv w1 L1 B gb un' ln' n ob pv C' nc' cv' := by
  have hc : ∀ c, c < nc → ¬ T (L (C c)) := fun c hc x => by have := ht _ x; rw [(h.cl c hc).1] at this; simp at this
  refine ⟨g0, g1, g2, g3, gf, (ha gb h.gs).trans h.gl, h.gB, Nat.lt_of_lt_of_le h.gs k.size, cr, fun c hcc => ?_, fun c hcc => ?_, nle, ncle, nln, max, fun i hi => ?_,
    fun i hi => (h.pr i hi).keep k ha (fun x => by have := ht _ x; simp at this), h.ph, h.pb⟩
  · by_cases hlt : c < nc
    · rw [hC c hlt]; exact ⟨(ha _ (h.cl c hlt).2.2).trans (h.cl c hlt).1, (h.cl c hlt).2.1, Nat.lt_of_lt_of_le (h.cl c hlt).2.2 k.size⟩
    · have hq := hnew c (by omega) hcc
      exact ⟨hq.1, hq.2.1, hq.2.2.1⟩
  · by_cases hlt : c < nc
    · rw [hC c hlt]; exact k.there (h.cl c hlt).2.2 (h.ct c hlt) (hc c hlt)
    · exact (hnew c (by omega) hcc).2.2.2
  · have hlt : i / 1024 < nc := by have := h.nle; have := h.nln; omega
    rw [hC _ hlt]; exact k.range (h.oc i hi) (hc _ hlt)

theorem set_ne {w : World} {b i j : Nat} {u v : Value} (hc : w.cell? ⟨b, j, none⟩ = some v) (h : i ≠ j) : (w.setCell ⟨b, i, none⟩ u).cell? ⟨b, j, none⟩ = some v := by
  rw [World.cell?_setCell_other _ _ _ _ (fun e => h (by simpa using congrArg Addr.off e))]; exact hc
theorem set_eq {w : World} {b i : Nat} {u v : Value} (hc : w.cell? ⟨b, i, none⟩ = some v) : (w.setCell ⟨b, i, none⟩ u).cell? ⟨b, i, none⟩ = some u :=
  World.cell?_setCell_same _ _ _ hc

/-- What a call that adds to the graph leaves: labels, chunks; nothing beyond the graph's own blocks has turned. -/
structure Grew (w : World) (L : Nat → Nat × Nat) (C : Nat → Nat) (nc : Nat) (w' : World) (L' : Nat → Nat × Nat) (C' : Nat → Nat) (nc' : Nat) : Prop where
  agree : Agree w L L'
  same : ∀ c, c < nc → C' c = C c
  le : nc ≤ nc'
  keep : Keep L Tg w w'

theorem ext_any (h : GInv w L B gb un n n ob pv C nc cv) (hmax : n < 65540) :
    Calls Yba.prog 15 #[.pointer (some ⟨gb, 0, none⟩), .int .i64 ((n : Int) + 1)] w fun e w' => e = .returned (.tuple #[]) ∧ ∃ L' C' nc' cv', Grew w L C nc w' L' C' nc' ∧ GInv w' L' B gb un (n + 1) n ob pv C' nc' cv' := by
  have tg : Tg (L gb) := by rw [h.gl]; exact ⟨by decide, by decide⟩
  by_cases hr : n + 1 ≤ nc * 1024
  · refine (ext_room h hr).mono ?_
    rintro e w' ⟨rfl, rfl⟩
    have k : Keep L (fun l => l = (1, 0)) w (w.setCell ⟨gb, 1, none⟩ (.int .i64 ((n : Int) + 1))) := (Keep.refl L _ w).setCell (a := ⟨gb, 1, none⟩) h.gl _
    refine ⟨rfl, L, C, nc, cv, ⟨Agree.refl _ _, fun _ _ => rfl, Nat.le_refl _, k.mono (fun l hl => by rw [hl]; exact ⟨by decide, by decide⟩)⟩, ?_⟩
    refine h.turn k (Agree.refl _ _) (fun l hl => .inl hl) (set_ne h.g0 (by omega)) (by have := set_eq (u := .int .i64 ((n : Int) + 1)) h.g1; simpa using this) (set_ne h.g2 (by omega)) (set_ne h.g3 (by omega)) (fun o ho => by rw [World.frozen?_setCell]; exact h.gf o ho)
      (h.cr.keep k (Agree.refl _ _) (by simp)) (fun _ _ => rfl) (fun c h1 h2 => absurd h2 (by omega)) hr (by have := h.ncle; omega) (by omega) (by omega)
  · have hfull : nc * 1024 = n := by have := h.nle; omega
    refine (ext_new h hfull hmax).mono ?_
    rintro e w' ⟨g, cap, w2, rfl, hown, hat, hgrow, rfl⟩
    have hcl : ∀ g', cv.ownBlock = some g' → L g' = (2, 0) := h.cr.lab
    have hne : cv.ownBlock ≠ some gb := fun e => by have := h.cr.lab gb e; rw [h.gl] at this; simp at this
    -- the labels
    have k2 : Keep L (fun l => l = (2, 0)) w w2 := (((Keep.refl L _ w).alloc _).alloc _).drew.grown hgrow (fun k hk => hcl k hk)
    have k : Keep L (fun l => l = (1, 0) ∨ l = (2, 0)) w ((w2.setCell ⟨gb, 0, none⟩ (.slice (some ⟨g, 0, none⟩) (nc + 1) cap)).setCell ⟨gb, 1, none⟩ (.int .i64 ((n : Int) + 1))) :=
      ((k2.mono (fun l hl => .inr hl)).setCell (a := ⟨gb, 0, none⟩) (.inl h.gl) _).setCell (a := ⟨gb, 1, none⟩) (.inl h.gl) _
    have hs2 : w.heap.size + 2 ≤ w2.heap.size := by have := hgrow.size; simpa using this
    have hag : Agree w L (upd (upd L w.heap.size (3, nc)) (w.heap.size + 2) (2, 0)) := (Agree.upd w L _ (Nat.le_refl _)).trans (Nat.le_refl _) (Agree.upd w _ _ (by omega))
    have tgb : L gb ≠ (2, 0) := by rw [h.gl]; simp
    have c0 := k2.cell_of h.g0 tgb
    have c1 := k2.cell_of h.g1 tgb
    have c2 := k2.cell_of h.g2 tgb
    have c3 := k2.cell_of h.g3 tgb
    refine ⟨rfl, upd (upd L w.heap.size (3, nc)) (w.heap.size + 2) (2, 0), fun c => if c = nc then w.heap.size else C c, nc + 1, .slice (some ⟨g, 0, none⟩) (nc + 1) cap, ⟨hag, fun c hc => if_neg (by omega), by omega, k.mono (fun l hl => by rcases hl with rfl | rfl <;> exact ⟨by decide, by decide⟩)⟩, ?_⟩
    have hcv : chunkVals (fun c => if c = nc then w.heap.size else C c) (nc + 1) = chunkVals C nc ++ [.slice (some ⟨w.heap.size, 0, none⟩) 1024 1024] := by
      unfold chunkVals
      rw [List.range_succ, List.map_append]
      congr 1
      · apply List.map_congr_left
        intro c hc
        have hcn : c ≠ nc := by have := List.mem_range.1 hc; omega
        simp [hcn]
      · simp
    have hrow : Row w2 (upd (upd L w.heap.size (3, nc)) (w.heap.size + 2) (2, 0)) (2, 0) B 56 (.slice (some ⟨g, 0, none⟩) (nc + 1) cap) (chunkVals (fun c => if c = nc then w.heap.size else C c) (nc + 1)) := by
      rw [hcv]
      have hr1 : Row w (upd L w.heap.size (3, nc)) (2, 0) B 56 cv (chunkVals C nc) := h.cr.keep (Keep.refl L (fun _ => False) w) (Agree.upd w L _ (Nat.le_refl _)) (fun x => x)
      have := hr1.appended (news := [.slice (some ⟨w.heap.size, 0, none⟩) 1024 1024]) (H := w.heap.size + 2) (g := g) (cap := cap) (w2 := w2) (by simpa [chunkVals_length] using hown) hat
      simpa [chunkVals_length] using this
    refine h.turn k hag (fun l hl => by rcases hl with rfl | rfl <;> simp) (set_ne (set_eq c0) (by omega)) (by have := set_eq (u := .int .i64 ((n : Int) + 1)) (set_ne (u := .slice (some ⟨g, 0, none⟩) (nc + 1) cap) c1 (show 0 ≠ 1 by omega)); simpa using this)
      (set_ne (set_ne c2 (by omega)) (by omega)) (set_ne (set_ne c3 (by omega)) (by omega)) (fun o ho => by rw [World.frozen?_setCell, World.frozen?_setCell, k2.frozen (a := ⟨gb, o, none⟩) h.gs tgb]; exact h.gf o ho)
      (hrow.keep (T := fun l => l = (1, 0)) (((Keep.refl _ _ w2).setCell (a := ⟨gb, 0, none⟩) (by rw [hag gb h.gs]; exact h.gl) _).setCell (a := ⟨gb, 1, none⟩) (by rw [hag gb h.gs]; exact h.gl) _) (Agree.refl _ _) (by simp))
      (fun c hc => if_neg (by omega)) (fun c h1 h2 => ?_) (by omega) (by omega) (by omega) (by omega)
    obtain rfl : c = nc := by omega
    simp only [if_true]
    have hz : w2.heap[w.heap.size]? = some (.cells zchunk 42 (0, 0)) := by
      rw [hgrow.block w.heap.size (by simp; omega) (fun e => by
        have := (World.ownsRow.lt h.cr.own w.heap.size e.symm).2; omega)]
      show ((w.alloc (.cells zchunk 42)).alloc _).heap[w.heap.size]? = _
      rw [Below.heap_alloc _ _ _ (by simp)]
      exact heap_alloc_new w _
    refine ⟨?_, by have := h.gB; have := h.gs; omega, by simp [World.setCell]; omega, fun j hj => ?_⟩
    · unfold upd; rw [if_neg (by omega), if_pos rfl]
    · have hne' : w.heap.size ≠ gb := by have := h.gs; omega
      rw [World.frozen?_setCell, World.frozen?_setCell, World.cell?_setCell_other _ _ _ _ (fun e => hne' (congrArg Addr.block e).symm), World.cell?_setCell_other _ _ _ _ (fun e => hne' (congrArg Addr.block e).symm)]
      simp [World.cell?, World.frozen?, hz, zchunk_size, hj]
end Go.Proofs.Ybulkexmym
