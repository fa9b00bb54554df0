/-
  THE GRAPH IN MEMORY, and the walks over Len (7), At (12), object (8), live (14).
-/
import Derived.Test.YbulkexmymOwn
namespace Go.Proofs.Ybulkexmym
open Go.RowKit

/-- An object, plain. -/
structure Ob where
  desc : ByteArray
  whole : Nat
  part : Nat
  parts : List Nat

def obCells (o : Ob) (pv : Value) : List Value :=
  [.string o.desc, .int .i32 o.whole, .int .i32 o.part, pv, .bool false, .bool false, .slice none 0 0, .slice none 0 0, .int .i32 0]
def ids (l : List Nat) : List Value := l.map fun (p : Nat) => Value.int .i32 (p : Int)
def chunkVals (C : Nat → Nat) (nc : Nat) : List Value := (List.range nc).map fun c => Value.slice (some ⟨C c, 0, none⟩) 1024 1024

/-- The labels that the graph's own blocks bear. -/
def Tg (l : Nat × Nat) : Prop := 1 ≤ l.1 ∧ l.1 ≤ 4

/-- The graph at block gb: ln: its length; of the first n objects all is known. -/
structure GInv (w : World) (L : Nat → Nat × Nat) (B gb : Nat) (un : Value) (ln n : Nat) (ob : Nat → Ob) (pv : Nat → Value) (C : Nat → Nat) (nc : Nat) (cv : Value) : Prop where
  g0 : w.cell? ⟨gb, 0, none⟩ = some cv
  g1 : w.cell? ⟨gb, 1, none⟩ = some (.int .i64 ln)
  g2 : w.cell? ⟨gb, 2, none⟩ = some (.slice none 0 0)
  g3 : w.cell? ⟨gb, 3, none⟩ = some un
  gf : ∀ o, o < 4 → w.frozen? ⟨gb, o, none⟩ = false
  gl : L gb = (1, 0)
  gB : B ≤ gb
  gs : gb < w.heap.size
  cr : Row w L (2, 0) B 56 cv (chunkVals C nc)
  cl : ∀ c, c < nc → L (C c) = (3, c) ∧ B ≤ C c ∧ C c < w.heap.size
  ct : ∀ c, c < nc → w.there (C c) 0 9216
  nle : ln ≤ nc * 1024
  ncle : nc * 1024 < ln + 1024
  nln : n ≤ ln
  max : ln ≤ 65540
  oc : ∀ i, i < n → w.rangeAt (C (i / 1024)) (i % 1024 * 9) (obCells (ob i) (pv i))
  pr : ∀ i, i < n → Row w L (4, i) B 37 (pv i) (ids (ob i).parts)
  ph : ∀ i, i < n → ∀ j p, (ob i).parts[j]? = some p → p < n ∧ (ob p).part = j + 1
  pb : ∀ i, i < n → (ob i).parts.length ≤ n

theorem chunkVals_length (C : Nat → Nat) (nc : Nat) : (chunkVals C nc).length = nc := by simp [chunkVals]

section
variable {w w1 : World} {L L1 : Nat → Nat × Nat} {B gb : Nat} {un : Value} {ln n : Nat} {ob : Nat → Ob} {pv : Nat → Value} {C : Nat → Nat} {nc : Nat} {cv : Value}

/-- What turns none of the graph's blocks leaves the graph. -/
theorem GInv.keep (h : GInv w L B gb un ln n ob pv C nc cv) {T : Nat × Nat → Prop} (k : Keep L T w w1) (ha : Agree w L L1) (ht : ∀ l, T l → 5 ≤ l.1) : GInv w1 L1 B gb un ln n ob pv C nc cv := by
  have hg : ¬ T (L gb) := fun x => by have := ht _ x; rw [h.gl] at this; simp at this
  have hc : ∀ c, c < nc → ¬ T (L (C c)) := fun c hc x => by have := ht _ x; rw [(h.cl c hc).1] at this; simp at this
  exact ⟨k.cell_of h.g0 hg, k.cell_of h.g1 hg, k.cell_of h.g2 hg, k.cell_of h.g3 hg, fun o ho => (k.frozen (a := ⟨gb, o, none⟩) h.gs hg).trans (h.gf o ho), (ha gb h.gs).trans h.gl, h.gB, Nat.lt_of_lt_of_le h.gs k.size,
    h.cr.keep k ha (fun x => by have := ht _ x; simp at this), fun c hcc => ⟨(ha _ (h.cl c hcc).2.2).trans (h.cl c hcc).1, (h.cl c hcc).2.1, Nat.lt_of_lt_of_le (h.cl c hcc).2.2 k.size⟩,
    fun c hcc => k.there (h.cl c hcc).2.2 (h.ct c hcc) (hc c hcc), h.nle, h.ncle, h.nln, h.max,
    fun i hi => k.range (h.oc i hi) (hc _ (by have := h.nle; have := h.nln; omega)), fun i hi => (h.pr i hi).keep k ha (fun x => by have := ht _ x; simp at this), h.ph, h.pb⟩

/-- Where the chunks' own slice lies. -/
theorem GInv.chunks (h : GInv w L B gb un ln n ob pv C nc cv) (hn : 0 < nc) : ∃ g cap, cv = .slice (some ⟨g, 0, none⟩) nc cap ∧ ∀ c, c < nc → w.cell? ⟨g, c, none⟩ = some (.slice (some ⟨C c, 0, none⟩) 1024 1024) := by
  rcases h.cr.form with ⟨_, h2⟩ | ⟨g, cap, h1, _⟩
  · have := congrArg List.length h2; rw [chunkVals_length] at this; simp at this; omega
  · rw [chunkVals_length] at h1
    refine ⟨g, cap, h1, fun c hc => ?_⟩
    have hr := h.cr
    rw [h1] at hr
    have hl := chunkVals_length C nc
    have hr2 : Row w L (2, 0) B 56 (.slice (some ⟨g, 0, none⟩) (chunkVals C nc).length cap) (chunkVals C nc) := by rw [hl]; exact hr
    rw [hr2.cell c (by omega)]; simp [chunkVals]

theorem mask1023 {c : Int} (h₀ : 0 ≤ c) (h₁ : c ≤ 100000) : bits .and .i64 c 1023 = c % 1024 :=
  bits_mask .i64 20 (by decide) (fun n h1 h2 => by rw [IntKind.wrap_i64]; omega) 10 (by decide) c h₀ (by omega)

set_option maxHeartbeats 400000 in
theorem at_any (h : GInv w L B gb un ln n ob pv C nc cv) (i : Nat) (hi : i < nc * 1024) :
    Calls Yba.prog 12 #[.pointer (some ⟨gb, 0, none⟩), .int .i64 i] w fun e w' => e = .returned (.pointer (some ⟨C (i / 1024), i % 1024 * 9, none⟩)) ∧ w' = w := by
  obtain ⟨g, cap, rfl, hc⟩ := h.chunks (by omega)
  have h0 := h.g0
  have hm := h.max
  have hk := h.ncle
  have hcell := hc (i / 1024) (by omega)
  have hmask := mask1023 (c := (i : Int)) (by omega) (by omega)
  clear h hc
  go_enter Yba.func12, Yba.ntmps12
  go_wp2
  go_ret
  exact ⟨rfl, rfl⟩

theorem len_any (h : GInv w L B gb un ln n ob pv C nc cv) :
    Calls Yba.prog 7 #[.pointer (some ⟨gb, 0, none⟩)] w fun e w' => e = .returned (.int .i64 ln) ∧ w' = w := by
  have h1 := h.g1
  clear h
  go_enter Yba.func7, Yba.ntmps7
  go_wp2
  go_ret
  exact ⟨rfl, rfl⟩

theorem object_any (h : GInv w L B gb un ln n ob pv C nc cv) (i : Nat) (hi : i < nc * 1024) :
    Calls Yba.prog 8 #[.pointer (some ⟨gb, 0, none⟩), .int .i32 i] w fun e w' => e = .returned (.pointer (some ⟨C (i / 1024), i % 1024 * 9, none⟩)) ∧ w' = w := by
  have H : Hid _ := h
  have hm := h.max
  have hk := h.ncle
  clear h
  go_enter Yba.func8, Yba.ntmps8
  go_wp2_with (go_at_call 12; refine (at_any H.out i hi).mono ?_; rintro e w' ⟨rfl, hw⟩; cases hw)
  go_ret
  exact ⟨rfl, rfl⟩

theorem live_any (h : GInv w L B gb un ln n ob pv C nc cv) (i : Nat) (hi : i < n) :
    Calls Yba.prog 14 #[.pointer (some ⟨gb, 0, none⟩), .int .i32 i] w fun e w' => e = .returned (.pointer (some ⟨C (i / 1024), i % 1024 * 9, none⟩)) ∧ w' = w := by
  have H : Hid _ := h
  have hin : i < nc * 1024 := by have := h.nle; have := h.nln; omega
  have hr : w.cell? ⟨C (i / 1024), i % 1024 * 9 + 5, none⟩ = some (.bool false) := h.oc i hi 5 _ rfl
  clear h
  go_enter Yba.func14, Yba.ntmps14
  go_wp2_with (go_at_call 8; refine (object_any H.out i hin).mono ?_; rintro e w' ⟨rfl, hw⟩; cases hw)
  go_ret
  exact ⟨rfl, rfl⟩
end
end Go.Proofs.Ybulkexmym
