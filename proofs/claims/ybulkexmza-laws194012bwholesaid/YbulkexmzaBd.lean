/-
  WHAT link.LawS194012BWhole LAYS IN MEMORY, step by step; a copy between two rows.
-/
import Derived.Test.YbulkexmzaCs
namespace Go.Proofs.Ybulkexmza
open Go.RowKit Go.Maps

theorem Yba.info39 : (Yba.prog.info? 39).map (fun i => (i.zero, i.size, i.bytes)) = some (some (.pointer none), 1, 8) := by kernel_rfl
theorem Yba.info29 : (Yba.prog.info? 29).map (fun i => (i.zero, i.size, i.bytes)) = some (some (.slice none 0 0), 1, 24) := by kernel_rfl
theorem Yba.info34 : (Yba.prog.info? 34).map (fun i => (i.zero, i.size, i.bytes)) = some (some (.pointer none), 1, 8) := by kernel_rfl
theorem Yba.info5 : (Yba.prog.info? 5).map (fun i => (i.zero, i.size, i.bytes)) = some (some (.int .u8 0), 1, 1) := by kernel_rfl

section
variable {w wr wr' : World} {X : Inp} {r c : Nat}

/-- r parts are made. -/
structure Bd (w wr : World) (X : Inp) (r : Nat) : Prop where
  mem : Mem w wr X r X.v0
  size : wr.heap.size = X.h w.heap.size r

/-- .. and of part r the row of symbols, its first c filled. -/
structure Be (w wr : World) (X : Inp) (r c : Nat) : Prop where
  mem : Mem w wr X r X.v0
  size : wr.heap.size = X.qb w.heap.size r c
  cur : wr.rowIs (X.h w.heap.size r) 34 (X.L r) (fun k => if k < c then .pointer (some ⟨X.sb w.heap.size r k, 0, none⟩) else .pointer none)
  csym : ∀ k, k < c → wr.rowIs (X.sb w.heap.size r k) 38 6 (X.symf w.heap.size r k)

theorem Bd.start (w : World) (X : Inp) : Bd w ((w.alloc (.cells (madeCells #[.pointer none] X.G) 39)).alloc (.cells (madeCells #[.slice none 0 0] X.G) 29)) X 0 := by
  have h1 := World.rowIs_made w (.pointer none) X.G 39
  have h2 := World.rowIs_made (w.alloc (.cells (madeCells #[.pointer none] X.G) 39)) (.slice none 0 0) X.G 29
  have hs : (w.alloc (.cells (madeCells #[.pointer none] X.G) 39)).heap.size = w.heap.size + 1 := by simp
  rw [hs] at h2
  have hS : w.Since w.heap.size ((w.alloc (.cells (madeCells #[.pointer none] X.G) 39)).alloc (.cells (madeCells #[.slice none 0 0] X.G) 29)) := ((World.Since.refl _ _).alloc (Nat.le_refl _) _).alloc (by rw [hs]; omega) _
  exact ⟨⟨hS, (h1.alloc _).congr (fun j _ => by simp), h2.congr (fun j _ => by simp), fun j hj => absurd hj (Nat.not_lt_zero _), fun j hj => absurd hj (Nat.not_lt_zero _), fun j hj => absurd hj (Nat.not_lt_zero _), fun j hj => absurd hj (Nat.not_lt_zero _)⟩, by simp [Inp.h]⟩

theorem Bd.open (h : Bd w wr X r) : Be w (wr.alloc (.cells (madeCells #[.pointer none] (X.L r)) 34)) X r 0 := by
  have hnew := World.rowIs_made wr (.pointer none) (X.L r) 34
  rw [h.size] at hnew
  exact ⟨h.mem.alloc _, by simp [h.size, Inp.qb, Inp.q], hnew.congr (fun k _ => by simp), fun k hk => absurd hk (Nat.not_lt_zero _)⟩

/-- Symbol c is laid; b: the data's block if there is one. -/
theorem Be.put (h : Be w wr X r c) {w2 : World} (hg : wr.grownBy w2 none) (hsz : w2.heap.size = X.sb w.heap.size r c) (cs : Array Value) (hcs : cs = #[.string (X.SN r c), .int .u8 ((X.SK r c % 4 : Nat) : Int), X.symf w.heap.size r c 2, .int .i64 (X.SZ r c), .int .i64 (al (X.SA r c)), .slice none 0 0]) :
    Be w ((w2.alloc (.cells cs 38)).setCell ⟨X.h w.heap.size r, c, none⟩ (.pointer (some ⟨X.sb w.heap.size r c, 0, none⟩))) X r (c + 1) := by
  subst hcs
  have hnew := World.rowIs_alloc w2 #[.string (X.SN r c), .int .u8 ((X.SK r c % 4 : Nat) : Int), X.symf w.heap.size r c 2, .int .i64 (X.SZ r c), .int .i64 (al (X.SA r c)), .slice none 0 0] 38 (X.symf w.heap.size r c) (by
    intro k hk
    have hk' : k = 0 ∨ k = 1 ∨ k = 2 ∨ k = 3 ∨ k = 4 ∨ k = 5 := by simp at hk; omega
    rcases hk' with rfl | rfl | rfl | rfl | rfl | rfl <;> rfl)
  rw [hsz] at hnew
  have hm2 : Mem w w2 X r X.v0 := h.mem.kept hg (fun d hd => by cases hd)
  have hc2 := rowIs_kept h.cur hg (by simp)
  have hm3 := hm2.alloc (.cells #[.string (X.SN r c), .int .u8 ((X.SK r c % 4 : Nat) : Int), X.symf w.heap.size r c 2, .int .i64 (X.SZ r c), .int .i64 (al (X.SA r c)), .slice none 0 0] 38)
  have hc3 := hc2.alloc (.cells #[.string (X.SN r c), .int .u8 ((X.SK r c % 4 : Nat) : Int), X.symf w.heap.size r c 2, .int .i64 (X.SZ r c), .int .i64 (al (X.SA r c)), .slice none 0 0] 38)
  generalize hw3 : w2.alloc (.cells #[.string (X.SN r c), .int .u8 ((X.SK r c % 4 : Nat) : Int), X.symf w.heap.size r c 2, .int .i64 (X.SZ r c), .int .i64 (al (X.SA r c)), .slice none 0 0] 38) = w3 at *
  have hs3 : w3.heap.size = X.sb w.heap.size r c + 1 := by rw [← hw3, ← hsz]; simp
  have hSr := X.S_lt w.heap.size r
  -- the row of symbols lies at no block of the others
  have ho : ∀ {b t m f'}, w3.rowIs b t m f' → t ≠ 34 → (w3.setCell ⟨X.h w.heap.size r, c, none⟩ (.pointer (some ⟨X.sb w.heap.size r c, 0, none⟩))).rowIs b t m f' := fun hb ht => hb.setOther (rowIs_ne hb hc3 ht) _
  have hlow : ∀ {j}, j < r → X.pb w.heap.size j < X.h w.heap.size r := fun {j} hj => by
    have := X.h_mono w.heap.size (r := j + 1) (t := r) hj
    rw [Inp.h_succ] at this; omega
  have hlow' : ∀ {j}, j < r → X.h w.heap.size j < X.h w.heap.size r ∧ X.bb w.heap.size j < X.h w.heap.size r := fun {j} hj => by
    have h1 := hlow hj
    have h2 := X.pb_lt w.heap.size j
    have h3 : X.pb w.heap.size j = X.bb w.heap.size j + 1 := rfl
    omega
  refine ⟨⟨hm3.since.setCell (by show w.heap.size ≤ X.h w.heap.size r; omega) _, ho hm3.parts (by decide), ho hm3.built (by decide), fun j hj => ho (hm3.part j hj) (by decide), fun j hj => (hm3.syms j hj).setOther (by show X.h w.heap.size j ≠ X.h w.heap.size r; have := hlow' hj; omega) _, fun j hj => (hm3.bsyms j hj).setOther (by show X.bb w.heap.size j ≠ X.h w.heap.size r; have := hlow' hj; omega) _, fun j hj k hk => ho (hm3.sym j hj k hk) (by decide)⟩, ?_, ?_, ?_⟩
  · have : X.qb w.heap.size r (c + 1) = X.sb w.heap.size r c + 1 := by
      simp only [Inp.sb, Inp.qb, Inp.q]
      split <;> omega
    rw [this]; simpa using hs3
  · refine (hc3.set c _).congr (fun k _ => ?_)
    by_cases e : k = c
    · subst e; simp
    · by_cases hlt : k < c
      · simp [e, hlt, show k < c + 1 by omega]
      · simp [e, hlt, show ¬ k < c + 1 by omega]
  · intro k hk
    by_cases e : k = c
    · subst e; exact ho hnew (by decide)
    · have := rowIs_kept (h.csym k (by omega)) hg (by simp)
      have h3 : w3.rowIs (X.sb w.heap.size r k) 38 6 (X.symf w.heap.size r k) := by rw [← hw3]; exact this.alloc _
      exact ho h3 (by decide)

/-- Behind the row: its copy (cells f) is made and named in built. -/
structure Bf (w wr : World) (X : Inp) (r : Nat) (f : Nat → Value) : Prop where
  since : w.Since w.heap.size wr
  parts : wr.rowIs w.heap.size 39 X.G (fun j => if j < r then .pointer (some ⟨X.pb w.heap.size j, 0, none⟩) else .pointer none)
  built : wr.rowIs (w.heap.size + 1) 29 X.G (fun j => if j < r + 1 then .slice (some ⟨X.bb w.heap.size j, 0, none⟩) (X.L j) (X.L j) else .slice none 0 0)
  part : ∀ j, j < r → wr.rowIs (X.pb w.heap.size j) 42 7 (X.prt w.heap.size j (X.v0 j))
  syms : ∀ j, j < r + 1 → wr.rowIs (X.h w.heap.size j) 34 (X.L j) (fun c => .pointer (some ⟨X.sb w.heap.size j c, 0, none⟩))
  bsyms : ∀ j, j < r → wr.rowIs (X.bb w.heap.size j) 34 (X.L j) (fun c => .pointer (some ⟨X.sb w.heap.size j c, 0, none⟩))
  sym : ∀ j, j < r + 1 → ∀ c, c < X.L j → wr.rowIs (X.sb w.heap.size j c) 38 6 (X.symf w.heap.size j c)
  size : wr.heap.size = X.pb w.heap.size r
  cp : wr.rowIs (X.bb w.heap.size r) 34 (X.L r) f

theorem bb_low {S j : Nat} (hj : j < r) : X.h S j < X.bb S r ∧ X.bb S j < X.bb S r ∧ X.h S j < X.h S r ∧ X.bb S j < X.h S r ∧ X.pb S j < X.h S r := by
  have h0 := X.h_mono S (r := j + 1) (t := r) hj
  rw [Inp.h_succ] at h0
  have h2 := X.pb_lt S j
  have h3 : X.pb S j = X.bb S j + 1 := rfl
  have h4 := X.pb_lt S r
  have h5 : X.pb S r = X.bb S r + 1 := rfl
  omega
theorem bb_cur (S : Nat) : X.h S r < X.bb S r := by
  have h4 := X.pb_lt S r
  have h5 : X.pb S r = X.bb S r + 1 := rfl
  omega

theorem Be.mid (h : Be w wr X r (X.L r)) :
    Bf w ((wr.alloc (.cells (madeCells #[.pointer none] (X.L r)) 34)).setCell ⟨w.heap.size + 1, r, none⟩ (.slice (some ⟨X.bb w.heap.size r, 0, none⟩) (X.L r) (X.L r))) X r (fun _ => .pointer none) := by
  have hnew := World.rowIs_made wr (.pointer none) (X.L r) 34
  have hsz : wr.heap.size = X.bb w.heap.size r := h.size
  rw [hsz] at hnew
  have hm := h.mem.alloc (.cells (madeCells #[.pointer none] (X.L r)) 34)
  have hc := h.cur.alloc (.cells (madeCells #[.pointer none] (X.L r)) 34)
  have hcs := fun k hk => (h.csym k hk).alloc (.cells (madeCells #[.pointer none] (X.L r)) 34)
  have hs2 : (wr.alloc (.cells (madeCells #[.pointer none] (X.L r)) 34)).heap.size = X.bb w.heap.size r + 1 := by simp [hsz]
  generalize wr.alloc (.cells (madeCells #[.pointer none] (X.L r)) 34) = w2 at *
  have ho : ∀ {b t m f'}, w2.rowIs b t m f' → t ≠ 29 → (w2.setCell ⟨w.heap.size + 1, r, none⟩ (.slice (some ⟨X.bb w.heap.size r, 0, none⟩) (X.L r) (X.L r))).rowIs b t m f' := fun hb ht => hb.setOther (rowIs_ne hb hm.built ht) _
  refine ⟨hm.since.setCell (by show w.heap.size ≤ w.heap.size + 1; omega) _, ho hm.parts (by decide), ?_, fun j hj => ho (hm.part j hj) (by decide), fun j hj => ?_, fun j hj => ho (hm.bsyms j hj) (by decide), fun j hj c hc' => ?_, (by simpa using hs2 : _ = X.bb w.heap.size r + 1), ho hnew (by decide)⟩
  · refine (hm.built.set r _).congr (fun j _ => ?_)
    by_cases e : j = r
    · subst e; simp
    · by_cases hlt : j < r
      · simp [e, hlt, show j < r + 1 by omega]
      · simp [e, hlt, show ¬ j < r + 1 by omega]
  · by_cases e : j = r
    · subst e; exact ho (hc.congr (fun k hk => by simp [hk])) (by decide)
    · exact ho (hm.syms j (by omega)) (by decide)
  · by_cases e : j = r
    · subst e; exact ho (hcs c hc') (by decide)
    · exact ho (hm.sym j (by omega) c hc') (by decide)

theorem Bf.copied {f g : Nat → Value} (h : Bf w wr X r f) (hg : wr.grownBy wr' (some (X.bb w.heap.size r))) (hs : wr'.heap.size = wr.heap.size) (hc : wr'.rowIs (X.bb w.heap.size r) 34 (X.L r) g) : Bf w wr' X r g := by
  have hS := X.S_lt w.heap.size r
  have hcur := bb_cur (X := X) (r := r) w.heap.size
  have ho : ∀ {b t m f'}, wr.rowIs b t m f' → t ≠ 34 → wr'.rowIs b t m f' := fun hb ht => rowIs_kept hb hg (fun e => rowIs_ne hb h.cp ht (by simpa using e))
  have hn : ∀ {b t m f'}, wr.rowIs b t m f' → b ≠ X.bb w.heap.size r → wr'.rowIs b t m f' := fun hb hne => rowIs_kept hb hg (fun e => hne (by simpa using e))
  refine ⟨h.since.grown hg h.since.size (fun k hk => by cases hk; omega), ho h.parts (by decide), ho h.built (by decide), fun j hj => ho (h.part j hj) (by decide), fun j hj => hn (h.syms j hj) ?_, fun j hj => hn (h.bsyms j hj) (by have := bb_low (X := X) (S := w.heap.size) hj; omega), fun j hj c hc' => ho (h.sym j hj c hc') (by decide), by rw [hs]; exact h.size, hc⟩
  by_cases e : j = r
  · subst e; omega
  · have := bb_low (X := X) (S := w.heap.size) (show j < r by omega); omega

theorem Bf.done (h : Bf w wr X r (fun k => .pointer (some ⟨X.sb w.heap.size r k, 0, none⟩))) :
    Bd w ((wr.alloc (.cells #[.string (X.N r), .int .u8 ((X.K r % 4 : Nat) : Int), .slice (some ⟨X.h w.heap.size r, 0, none⟩) (X.L r) (X.L r), .int .u64 7, .int .u64 9, .int .u64 ((X.I r : Nat) : Int), .int .u64 3] 42)).setCell ⟨w.heap.size, r, none⟩ (.pointer (some ⟨X.pb w.heap.size r, 0, none⟩))) X (r + 1) := by
  have hnew := World.rowIs_alloc wr #[.string (X.N r), .int .u8 ((X.K r % 4 : Nat) : Int), .slice (some ⟨X.h w.heap.size r, 0, none⟩) (X.L r) (X.L r), .int .u64 7, .int .u64 9, .int .u64 ((X.I r : Nat) : Int), .int .u64 3] 42 (X.prt w.heap.size r (X.v0 r)) (by
    intro k hk
    have hk' : k = 0 ∨ k = 1 ∨ k = 2 ∨ k = 3 ∨ k = 4 ∨ k = 5 ∨ k = 6 := by simp at hk; omega
    rcases hk' with rfl | rfl | rfl | rfl | rfl | rfl | rfl <;> rfl)
  rw [h.size] at hnew
  have ha : ∀ {b t m f'}, wr.rowIs b t m f' → t ≠ 39 → ((wr.alloc (.cells #[.string (X.N r), .int .u8 ((X.K r % 4 : Nat) : Int), .slice (some ⟨X.h w.heap.size r, 0, none⟩) (X.L r) (X.L r), .int .u64 7, .int .u64 9, .int .u64 ((X.I r : Nat) : Int), .int .u64 3] 42)).setCell ⟨w.heap.size, r, none⟩ (.pointer (some ⟨X.pb w.heap.size r, 0, none⟩))).rowIs b t m f' := fun hb ht => (hb.alloc _).setOther (rowIs_ne hb h.parts ht) _
  refine ⟨⟨(h.since.alloc h.since.size _).setCell (Nat.le_refl _) _, ?_, ha h.built (by decide), fun j hj => ?_, fun j hj => ha (h.syms j hj) (by decide), fun j hj => ?_, fun j hj c hc' => ha (h.sym j hj c hc') (by decide)⟩, by simp [h.size, Inp.h_succ]⟩
  · refine ((h.parts.alloc _).set r _).congr (fun j _ => ?_)
    by_cases e : j = r
    · subst e; simp
    · by_cases hlt : j < r
      · simp [e, hlt, show j < r + 1 by omega]
      · simp [e, hlt, show ¬ j < r + 1 by omega]
  · by_cases e : j = r
    · subst e; exact hnew.setOther (by show X.pb w.heap.size j ≠ w.heap.size; have := X.S_lt w.heap.size j; have := X.pb_lt w.heap.size j; omega) _
    · exact ha (h.part j (by omega)) (by decide)
  · by_cases e : j = r
    · subst e; exact ha h.cp (by decide)
    · exact ha (h.bsyms j (by omega)) (by decide)

/-- copy(d, s) between two rows of one length, cells of one value each. -/
theorem wpList_copy_rows {P : Program} {w : World} {ops : Array Oper} {rest : List Oper} {o : Oper} {a : Act} {Q : Exit → Act → World → Prop} (hgd : o.guard = none) (d s : Operand) (dT sT : TypeId)
    (ho : o.op = .call { callee := .builtin .copy, args := #[d, s], argTypes := #[dT, sT] }) (elem : TypeId) (hu : P.underlying dT = some (.slice elem)) (hsz : (P.info? elem).map (·.size) = some 1)
    (g sg n : Nat) (hd : a.eval d = .slice (some ⟨g, 0, none⟩) n n) (hs : a.eval s = .slice (some ⟨sg, 0, none⟩) n n) (t t' : TypeId) (f0 f : Nat → Value) (hg : w.rowIs g t n f0) (hsrc : w.rowIs sg t' n f) (h1 : ∀ i, i < n → (f i).oneCell' = true)
    (h : ∀ w', w'.rowIs g t n f → w.grownBy w' (some g) → w'.heap.size = w.heap.size → wpList P ops Q rest (a.put o.dst (goInt n)) w') : wpList P ops Q (o :: rest) a w := by
  obtain ⟨cur, hcur, hcs, _⟩ := hg
  have hl : ((List.range n).map f).length = n := by simp
  refine wpList_copy_own hgd d s dT sT ho elem hu hsz g 0 n n ⟨sg, 0, none⟩ n n hd hs cur t hcur ((List.range n).map f) (by rw [hl]; exact (Nat.min_self n).symm) ?_ (by rw [hl, hcs]; omega) ?_ ?_
  · intro j v hj
    obtain ⟨hlt, rfl⟩ := List.getElem?_eq_some_iff.1 hj
    rw [hl] at hlt
    have := hsrc.cell hlt
    have e : (⟨sg, 0, none⟩ : Addr).add j = ⟨sg, j, none⟩ := by unfold Addr.add; split <;> simp_all
    rw [e]
    simpa using this
  · intro v hv
    obtain ⟨i, hi, rfl⟩ := List.mem_map.1 hv
    exact h1 i (List.mem_range.1 hi)
  · rw [hl]
    have e : (cur.toList.take 0 ++ ((List.range n).map f ++ cur.toList.drop (0 + n))).toArray = ((List.range n).map f).toArray := by
      have : cur.toList.drop (0 + n) = [] := List.drop_eq_nil_of_le (by simp; omega)
      rw [this]; simp
    rw [e]
    refine h _ ⟨_, setRow_heap w g cur _ t (0, 0) hcur, by simp, fun i hi => by simp [hi]⟩ ⟨rfl, rfl, rfl, by simp [World.setRow], fun i _ hne => setRow_other w g i _ (fun e => hne (by rw [e]))⟩ (by simp [World.setRow])
end
end Go.Proofs.Ybulkexmza
