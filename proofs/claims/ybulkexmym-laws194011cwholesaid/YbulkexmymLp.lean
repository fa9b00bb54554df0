/-
  THE LOOP's RELATION, and what a round makes of it, plain.
-/
import Derived.Test.YbulkexmymMod
namespace Go.Proofs.Ybulkexmym
open Go.RowKit

def dl (ob : Nat → Ob) (n : Nat) : List Value := (List.range n).map fun i => .string (ob i).desc
def ol (ob : Nat → Ob) (n : Nat) : List Value := (List.range n).map fun i => .int .i32 ((ob i).whole : Nat)
def pl (ob : Nat → Ob) (n : Nat) : List Value := (List.range n).map fun i => .int .i32 ((ob i).part : Nat)
def sl (mv : Nat → Value) (n : Nat) : List Value := (List.range n).map mv

theorem dl_length (ob : Nat → Ob) (n : Nat) : (dl ob n).length = n := by simp [dl]
theorem ol_length (ob : Nat → Ob) (n : Nat) : (ol ob n).length = n := by simp [ol]
theorem pl_length (ob : Nat → Ob) (n : Nat) : (pl ob n).length = n := by simp [pl]
theorem sl_length (mv : Nat → Value) (n : Nat) : (sl mv n).length = n := by simp [sl]

theorem map_next {f f' : Nat → Value} {n : Nat} {x : Value} (h : ∀ i, i < n → f' i = f i) (hx : f' n = x) : (List.range n).map f ++ [x] = (List.range (n + 1)).map f' := by
  rw [List.range_succ, List.map_append, List.map_singleton, hx]
  congr 1
  apply List.map_congr_left
  intro i hi
  exact (h i (List.mem_range.1 hi)).symm

/-- The state in the loop. -/
def Canon (w0 w : World) (L : Nat → Nat × Nat) (B gb : Nat) (un : Value) (n : Nat) (ob : Nat → Ob) (pv : Nat → Value) (C : Nat → Nat) (nc : Nat) (cv : Value) (ws : List Nat) (dv wv ov nv sv : Value) (mv : Nat → Value) : Prop :=
  (∀ x ∈ ws, x < n ∧ (ob x).whole = x ∧ (ob x).part = 0) ∧ ws.length ≤ n ∧
  All w0 w L B gb un n ob pv C nc cv (dl ob n) (ids ws) (ol ob n) (pl ob n) (sl mv n) dv wv ov nv sv n mv (fun i => (ob i).parts)

section
variable {w0 w w' : World} {L L' : Nat → Nat × Nat} {B gb : Nat} {un : Value} {n : Nat} {ob : Nat → Ob} {pv : Nat → Value} {C : Nat → Nat} {nc : Nat} {cv : Value}
variable {dv wv ov nv sv dv' wv' ov' nv' sv' : Value} {mv pv' : Nat → Value} {ws : List Nat} {C' : Nat → Nat} {nc' : Nat} {cv' : Value}

/-- A whole was added. -/
theorem canonA (hws : ∀ x ∈ ws, x < n ∧ (ob x).whole = x ∧ (ob x).part = 0) (hwl : ws.length ≤ n) {d : ByteArray}
    (h : All w0 w' L' B gb un (n + 1) (fun i => if i = n then ⟨d, n, 0, []⟩ else ob i) pv' C' nc' cv' (dl ob n ++ [.string d]) (ids ws ++ [.int .i32 n]) (ol ob n ++ [.int .i32 n]) (pl ob n ++ [.int .i32 0]) (sl mv n ++ [.slice none 0 0]) dv' wv' ov' nv' sv' (n + 1)
      (fun i => if i = n then .slice none 0 0 else mv i) (fun i => if i = n then [] else (ob i).parts)) :
    Canon w0 w' L' B gb un (n + 1) (fun i => if i = n then ⟨d, n, 0, []⟩ else ob i) pv' C' nc' cv' (ws ++ [n]) dv' wv' ov' nv' sv' (fun i => if i = n then .slice none 0 0 else mv i) := by
  refine ⟨fun x hx => ?_, by simp; omega, ?_⟩
  · rcases List.mem_append.1 hx with hx | hx
    · have := hws x hx
      have hne : ¬ x = n := by omega
      simp only [if_neg hne]
      exact ⟨by omega, this.2⟩
    · obtain rfl : x = n := by simpa using hx
      simp
  · have e1 : dl ob n ++ [.string d] = dl (fun i => if i = n then ⟨d, n, 0, []⟩ else ob i) (n + 1) := map_next (fun i hi => by simp [show ¬ i = n by omega]) (by simp)
    have e2 : ol ob n ++ [.int .i32 n] = ol (fun i => if i = n then ⟨d, n, 0, []⟩ else ob i) (n + 1) := map_next (fun i hi => by simp [show ¬ i = n by omega]) (by simp)
    have e3 : pl ob n ++ [.int .i32 0] = pl (fun i => if i = n then ⟨d, n, 0, []⟩ else ob i) (n + 1) := map_next (fun i hi => by simp [show ¬ i = n by omega]) (by simp)
    have e4 : sl mv n ++ [.slice none 0 0] = sl (fun i => if i = n then .slice none 0 0 else mv i) (n + 1) := map_next (fun i hi => by simp [show ¬ i = n by omega]) (by simp)
    have e5 : (fun i => if i = n then [] else (ob i).parts) = fun i => ((fun i => if i = n then (⟨d, n, 0, []⟩ : Ob) else ob i) i).parts := by
      funext i; by_cases e : i = n <;> simp [e]
    rw [e1, e2, e3, e4, e5, ← ids_append] at h
    exact h

theorem set_map {f f' : Nat → Value} {n j : Nat} {v : Value} (h : ∀ i, i < n → f' i = if i = j then v else f i) : ((List.range n).map f).set j v = (List.range n).map f' := by
  apply List.ext_getElem?
  intro i
  rw [List.getElem?_set]
  by_cases hi : i < n
  · have hh := h i hi
    by_cases e : j = i
    · subst e; simp [hi, hh]
    · have e' : ¬ i = j := fun x => e x.symm
      simp [hi, e, hh, e']
  · simp [hi]
    intro e
    omega

theorem partOb_desc (ob : Nat → Ob) (n i : Nat) (d : ByteArray) (j : Nat) (hi : i < n) : (partOb ob n i d j).desc = if j = n then d else (ob j).desc := by
  unfold partOb morePart
  by_cases e : j = i
  · subst e; simp [show ¬ j = n by omega]
  · by_cases e2 : j = n
    · simp [e2, show ¬ n = i by omega]
    · simp [e, e2]
theorem partOb_whole (ob : Nat → Ob) (n i : Nat) (d : ByteArray) (j : Nat) (hi : i < n) : (partOb ob n i d j).whole = if j = n then i else (ob j).whole := by
  unfold partOb morePart
  by_cases e : j = i
  · subst e; simp [show ¬ j = n by omega]
  · by_cases e2 : j = n
    · simp [e2, show ¬ n = i by omega]
    · simp [e, e2]
theorem partOb_part (ob : Nat → Ob) (n i : Nat) (d : ByteArray) (j : Nat) (hi : i < n) : (partOb ob n i d j).part = if j = n then (ob i).parts.length + 1 else (ob j).part := by
  unfold partOb morePart
  by_cases e : j = i
  · subst e; simp [show ¬ j = n by omega]
  · by_cases e2 : j = n
    · simp [e2, show ¬ n = i by omega]
    · simp [e, e2]
theorem partOb_parts (ob : Nat → Ob) (n i : Nat) (d : ByteArray) (j : Nat) (hi : i < n) : (partOb ob n i d j).parts = if j = i then (ob i).parts ++ [n] else if j = n then [] else (ob j).parts := by
  unfold partOb morePart
  by_cases e : j = i
  · subst e; simp [show ¬ j = n by omega]
  · by_cases e2 : j = n
    · simp [e2, show ¬ n = i by omega]
    · simp [e, e2]

/-- A part was added. -/
theorem canonB (hws : ∀ x ∈ ws, x < n ∧ (ob x).whole = x ∧ (ob x).part = 0) (hwl : ws.length ≤ n) {d : ByteArray} {i : Nat} (hi : i < n) {v' : Value}
    (h : All w0 w' L' B gb un (n + 1) (partOb ob n i d) pv' C' nc' cv' (dl ob n ++ [.string d]) (ids ws) (ol ob n ++ [.int .i32 i]) (pl ob n ++ [.int .i32 ((ob i).parts.length + 1 : Nat)]) ((sl mv n ++ [Value.slice none 0 0]).set i v') dv' wv' ov' nv' sv' (n + 1)
      (fun j => if j = i then v' else if j = n then .slice none 0 0 else mv j) (fun j => if j = i then (ob i).parts ++ [n] else if j = n then [] else (ob j).parts)) :
    Canon w0 w' L' B gb un (n + 1) (partOb ob n i d) pv' C' nc' cv' ws dv' wv' ov' nv' sv' (fun j => if j = i then v' else if j = n then .slice none 0 0 else mv j) := by
  refine ⟨fun x hx => ?_, by omega, ?_⟩
  · have := hws x hx
    have hne : ¬ x = n := by omega
    rw [partOb_whole _ _ _ _ _ hi, partOb_part _ _ _ _ _ hi, if_neg hne, if_neg hne]
    exact ⟨by omega, this.2⟩
  · have e1 : dl ob n ++ [.string d] = dl (partOb ob n i d) (n + 1) := map_next (fun j hj => by rw [partOb_desc _ _ _ _ _ hi, if_neg (by omega)]) (by rw [partOb_desc _ _ _ _ _ hi, if_pos rfl])
    have e2 : ol ob n ++ [.int .i32 i] = ol (partOb ob n i d) (n + 1) := map_next (fun j hj => by rw [partOb_whole _ _ _ _ _ hi, if_neg (by omega)]) (by rw [partOb_whole _ _ _ _ _ hi, if_pos rfl])
    have e3 : pl ob n ++ [.int .i32 ((ob i).parts.length + 1 : Nat)] = pl (partOb ob n i d) (n + 1) := map_next (fun j hj => by rw [partOb_part _ _ _ _ _ hi, if_neg (by omega)]) (by rw [partOb_part _ _ _ _ _ hi, if_pos rfl])
    have e4 : (sl mv n ++ [Value.slice none 0 0]).set i v' = sl (fun j => if j = i then v' else if j = n then .slice none 0 0 else mv j) (n + 1) := by
      have : sl mv n ++ [.slice none 0 0] = sl (fun j => if j = n then .slice none 0 0 else mv j) (n + 1) := map_next (fun i hi => by simp [show ¬ i = n by omega]) (by simp)
      rw [this]
      exact set_map (fun j _ => rfl)
    have e5 : (fun j => if j = i then (ob i).parts ++ [n] else if j = n then [] else (ob j).parts) = fun j => (partOb ob n i d j).parts := by
      funext j; rw [partOb_parts _ _ _ _ _ hi]
    rw [e1, e2, e3, e4, e5] at h
    exact h
end
end Go.Proofs.Ybulkexmym
