/-
  FROM THE WALKS TO THE TOLD ROW: what is listed, off 'laid'; fmt's text of 'type %d', told; the start that is there.
-/
import Derived.Test.YbulkexmwwFmtLawC
import Derived.ProofKit
import Derived.OpenShut
import Derived.SizedLaws
import Derived.Stop.JoinedAt
import Derived.Stop.Texts
import Derived.Stop.ErrReads
import Derived.Stop.LaidErr
import Derived.Stop.JoinedTold
import Derived.Stop.FmtTextKit
import Derived.Stop.FmtTextVerbs
import Derived.Lib.LaidU8
namespace Go.Proofs.YbulkexmwwFmt
open Go.ChangeShapes Go.WideShapes Go.ChangeAt Go.RowKit Go.Kit
open Go.Extern.Stop Go.Stop Go.Extern

theorem Ybaf.own : ownKnob Ybaf.prog.godebug = none := by kernel_rfl
theorem Ybaf.laidOut : laidOutB Ybaf.prog = true := by kernel_rfl
theorem Ybaf.cells5 : Ybaf.prog.cellsOf 5 = 1 := by kernel_rfl
theorem Ybaf.cells9 : Ybaf.prog.cellsOf 9 = 1 := by kernel_rfl
theorem Ybaf.cells60 : Ybaf.prog.cellsOf 60 = 1 := by kernel_rfl
theorem Ybaf.row58 (nm : String) (hn : nm.toList = Char.ofNat 42 :: "errors.errorString".toList) (u : TypeId) (h : Ybaf.prog.typeName? 3 u = some nm) : u = 58 :=
  typeName_ptr_named (nm := "errors.errorString") (by kernel_rfl) (by kernel_rfl) (by decide) u (by rw [h]; exact congrArg some (String.toList_inj.1 (by rw [hn]; decide)))

/-! fmt's text -/
theorem t_parse : (FmtText.parse [116, 121, 112, 101, 32, 37, 100]).map FmtText.glue = some [.lit [116, 121, 112, 101, 32], .verb {} 100] := by rfl

theorem t_text (t : Int) (hw : (Lit.int .u8 t).wf = true) : FmtText.text "fmt.Sprintf" (readT t) = some ([116, 121, 112, 101, 32] ++ Lib.itoa t) := by
  have hi := FmtText.operand_int_at (sh := Ybaf.shape5) (k := .u8) rfl rfl t hw
  rw [readT, FmtText.text_sprintf_glued t_parse (FmtText.operands_cons hi FmtText.operands_nil)]
  simp [FmtText.render, FmtText.printArg_d _ _ hw]

theorem t_short (F : Interp) (t : Int) (h0 : 13 ≤ t) (h1 : t ≤ 255) : (FmtStop.textOf (F.told "fmt.Sprintf" (readT t) 0)).size ≤ 1000 := by
  have hw : (Lit.int .u8 t).wf = true := by simp [Lit.wf, IntKind.min, IntKind.max, IntKind.signed, IntKind.bits]; omega
  have hl := FmtText.itoa_length_le hw
  have ht := told_string F (t_text t hw) (by simp; omega)
  have e := textOf_list F.told "fmt.Sprintf" (readT t)
  rw [ht] at e
  have e2 := congrArg List.length e
  simp at e2
  have : (FmtStop.textOf (F.told "fmt.Sprintf" (readT t) 0)).size = (FmtStop.textOf (F.told "fmt.Sprintf" (readT t) 0)).data.size := rfl
  omega

/-! the listed names, off 'laid' -/
theorem names_of {W : World} (h : laidMet Ybaf.prog Rows.lawS194008CWholeRow.laid W) :
    (∀ t : Nat, t < 13 → ∃ s : ByteArray, W.cell? ⟨2, t, none⟩ = some (.string s) ∧ s.size ≤ 1000) ∧ 2 < W.heap.size := by
  obtain ⟨g, ty, cs, fuel, p, hg, ht, hv, hd⟩ := Lib.laidMet.reads h (List.mem_cons_of_mem _ (List.mem_cons_self))
  obtain rfl : 2 = g := Option.some.inj (by rw [← hg]; kernel_rfl)
  obtain rfl : 56 = ty := Option.some.inj (by rw [← ht]; kernel_rfl)
  obtain ⟨xs, m, rfl, hx, hlen, hn, hel⟩ := DataW.trod_array Ybaf.underlying56 hd
  have c56 : Ybaf.prog.cellsOf 56 = 13 := by kernel_rfl
  rw [c56] at hlen
  have hxl : xs.map (·.1) = [.lit (.string [115, 116, 111, 112]), .lit (.string [98, 111, 111, 108]), .lit (.string [98, 111, 111, 108]), .lit (.string [105, 56]), .lit (.string [105, 49, 54]), .lit (.string [105, 51, 50]), .lit (.string [105, 54, 52]), .lit (.string [100, 111, 117, 98, 108, 101]), .lit (.string [98, 105, 110, 97, 114, 121]), .lit (.string [108, 105, 115, 116]), .lit (.string [115, 101, 116]), .lit (.string [109, 97, 112]), .lit (.string [115, 116, 114, 117, 99, 116])] := by
    have := (Prod.mk.injEq _ _ _ _ ▸ hx).1
    exact (DataW.agg.inj this).symm
  have key : ∀ t : Nat, t < 13 → ∃ s : ByteArray, W.cell? ⟨2, t, none⟩ = some (.string s) ∧ s.size ≤ 1000 := by
    intro t ht
    have h1 := hel t ht
    rw [Ybaf.cells9, Nat.mul_one] at h1
    have hl : t < cs.toList.length := by omega
    have hc := World.var?_cell hg hv t
    have htx : t < xs.length := by omega
    rw [List.getElem?_eq_getElem htx] at h1
    obtain ⟨s, e1, e2, _⟩ := DataW.trod_string Ybaf.underlying9 h1
    rw [List.drop_eq_getElem_cons hl] at e1
    simp only [List.take_succ_cons, List.take_zero, List.cons.injEq, and_true] at e1
    refine ⟨s, ?_, ?_⟩
    · rw [hc, ← e1]
      simp
    · have e3 : (xs.map (·.1))[t]? = some (.lit (.string s.data.toList)) := by
        rw [List.getElem?_map, List.getElem?_eq_getElem htx, e2]; rfl
      rw [hxl] at e3
      have hlen : s.data.toList.length ≤ 1000 := by
        have : t = 0 ∨ t = 1 ∨ t = 2 ∨ t = 3 ∨ t = 4 ∨ t = 5 ∨ t = 6 ∨ t = 7 ∨ t = 8 ∨ t = 9 ∨ t = 10 ∨ t = 11 ∨ t = 12 := by omega
        rcases this with rfl | rfl | rfl | rfl | rfl | rfl | rfl | rfl | rfl | rfl | rfl | rfl | rfl
        all_goals
          simp only [List.getElem?_cons_zero, List.getElem?_cons_succ, Option.some.injEq, DataW.lit.injEq, Lit.string.injEq] at e3
          rw [← e3]
          decide
      simpa using hlen
  refine ⟨key, ?_⟩
  obtain ⟨s, hs, _⟩ := key 0 (by omega)
  exact World.block_lt_of_cell? _ _ hs

/-- Named variables read on as they read. -/
theorem vars_below {H : Type} {enc : TypeId × Value → H} {P : Program} (hl : laidOutB P = true) {W W' : World} (hb : Below W.heap.size W W') :
    ∀ {ns : List String} {ds : List (DataW H)} {ps : List MemPlace}, (∀ n ∈ ns, ∀ g t, P.globalNamed n = some g → (P.globals[g]?).map (·.type) = some t → P.readableRec t = true ∧ t < P.types.size) →
      DataW.TrodVars enc P W (fun _ => true) ns ds ps → (∀ x ∈ ps, x.block < W.heap.size) → DataW.TrodVars enc P W' (fun b => decide (b < W.heap.size)) ns ds ps
  | [], [], _, _, h, _ => h
  | n :: ns, d :: ds, ps, hr, ⟨g, t, cs, fuel, p, q, h1, h2, h3, h4, hs, e⟩, hlt => by
    subst e
    have hg : g < W.heap.size := by
      rcases Nat.lt_or_ge g W.heap.size with h | h
      · exact h
      · simp [World.var?, h1, Array.getElem?_eq_none h] at h3
    obtain ⟨hr1, hr2⟩ := hr n (List.mem_cons_self) g t h1 h2
    refine ⟨g, t, cs, fuel, p, q, h1, h2, var?_below hb h1 hg h3, ?_, vars_below hl hb (fun m hm => hr m (List.mem_cons_of_mem _ hm)) hs (fun x hx => hlt x (by simp [hx])), rfl⟩
    exact DataW.trod_stays (kids_book hl hr1) (book_sized hr1) (fun h => by cases h) ⟨hr2, book_self t⟩ h4 (fun x hx => hb.same (hlt x (by simp [hx]))) (fun x hx => by simpa using hlt x (by simp [hx]))
end Go.Proofs.YbulkexmwwFmt
