/-
  FROM THE WALKS TO THE TOLD ROW, AND THE CARD.
-/
import Derived.Test.YbulkexmwwFmtLift
import Derived.Test.YbulkexmwwFmtCards
import Derived.Test.YbulkexmwwFmtTie
import Derived.SevenTiedAt
namespace Go.Proofs.YbulkexmwwFmt
open Go.ChangeShapes Go.WideShapes Go.ChangeAt Go.RowKit Go.Kit
open Go.Extern.Stop Go.Stop Go.Extern

/-- A row of cells with other cells in it. -/
def putCells (cs : Array Value) : Obj → Obj
  | .cells _ t frozen => .cells cs t frozen
  | o => o

set_option maxRecDepth 100000 in
theorem laid_met (os : Os) (args : Array Value) : laidMet Ybaf.prog Rows.lawS194008CWholeRow.laid (World.forCall ({ World.holding Ybaf.prog os ⟨#[.cells #[.string ⟨#[117, 110, 101, 120, 112, 101, 99, 116, 101, 100, 32, 69, 79, 70]⟩] 60, .cells #[.string ⟨#[97, 32, 118, 97, 114, 105, 110, 116, 32, 111, 102, 32, 109, 111, 114, 101, 32, 116, 104, 97, 110, 32, 54, 52, 32, 98, 105, 116, 115]⟩] 60], #[], []⟩ with heap := (((World.holding Ybaf.prog os ⟨#[.cells #[.string ⟨#[117, 110, 101, 120, 112, 101, 99, 116, 101, 100, 32, 69, 79, 70]⟩] 60, .cells #[.string ⟨#[97, 32, 118, 97, 114, 105, 110, 116, 32, 111, 102, 32, 109, 111, 114, 101, 32, 116, 104, 97, 110, 32, 54, 52, 32, 98, 105, 116, 115]⟩] 60], #[], []⟩).heap.modify 0 (putCells #[.iface 58 (.pointer (some ⟨(World.settled Ybaf.prog os).heap.size, 0, none⟩))])).modify 1 (putCells #[.iface 58 (.pointer (some ⟨(World.settled Ybaf.prog os).heap.size + 1, 0, none⟩))])).modify 2 (putCells #[.string ⟨#[115, 116, 111, 112]⟩, .string ⟨#[98, 111, 111, 108]⟩, .string ⟨#[98, 111, 111, 108]⟩, .string ⟨#[105, 56]⟩, .string ⟨#[105, 49, 54]⟩, .string ⟨#[105, 51, 50]⟩, .string ⟨#[105, 54, 52]⟩, .string ⟨#[100, 111, 117, 98, 108, 101]⟩, .string ⟨#[98, 105, 110, 97, 114, 121]⟩, .string ⟨#[108, 105, 115, 116]⟩, .string ⟨#[115, 101, 116]⟩, .string ⟨#[109, 97, 112]⟩, .string ⟨#[115, 116, 114, 117, 99, 116]⟩]) } : World) (fun _ _ => 0) ⟨#[], args, []⟩).memory :=
  laidMet_of_run' 8 (by kernel_rfl) (by kernel_rfl)

set_option maxRecDepth 100000 in
theorem law_witness (os : Os) (H : Type) (enc : TypeId × Value → H) (F : Stop.Interp) :
    ∃ (w : World) (tape : Tape) (i : Input), w.os = os ∧ (w.forCall tape i).Shaped Ybaf.checked.prog ∧ i.vars = [] ∧ Input.okWide Ybaf.checked.prog (w.forCall tape i) .any w.heap.size 3 i ∧
      (OpenSpec.ofChange Rows.lawS194008CWholeSpec).preRow enc Ybaf.checked.prog Ybaf.f3 Rows.lawS194008CWholeRow.domain false Rows.lawS194008CWholeRow.laid (w.forCall tape i).memory i.args ∧ ({} : Assume).holds Ybaf.checked.prog (lone (Frame.enter Ybaf.checked.prog 3 i.args .normal) [] (w.forCall tape i)) ∧ F.answers tape :=
  OpenSpec.witness_stopped_at (enc := enc) (C := Ybaf.checked) false ({ World.holding Ybaf.prog os ⟨#[.cells #[.string ⟨#[117, 110, 101, 120, 112, 101, 99, 116, 101, 100, 32, 69, 79, 70]⟩] 60, .cells #[.string ⟨#[97, 32, 118, 97, 114, 105, 110, 116, 32, 111, 102, 32, 109, 111, 114, 101, 32, 116, 104, 97, 110, 32, 54, 52, 32, 98, 105, 116, 115]⟩] 60], #[], []⟩ with heap := (((World.holding Ybaf.prog os ⟨#[.cells #[.string ⟨#[117, 110, 101, 120, 112, 101, 99, 116, 101, 100, 32, 69, 79, 70]⟩] 60, .cells #[.string ⟨#[97, 32, 118, 97, 114, 105, 110, 116, 32, 111, 102, 32, 109, 111, 114, 101, 32, 116, 104, 97, 110, 32, 54, 52, 32, 98, 105, 116, 115]⟩] 60], #[], []⟩).heap.modify 0 (putCells #[.iface 58 (.pointer (some ⟨(World.settled Ybaf.prog os).heap.size, 0, none⟩))])).modify 1 (putCells #[.iface 58 (.pointer (some ⟨(World.settled Ybaf.prog os).heap.size + 1, 0, none⟩))])).modify 2 (putCells #[.string ⟨#[115, 116, 111, 112]⟩, .string ⟨#[98, 111, 111, 108]⟩, .string ⟨#[98, 111, 111, 108]⟩, .string ⟨#[105, 56]⟩, .string ⟨#[105, 49, 54]⟩, .string ⟨#[105, 51, 50]⟩, .string ⟨#[105, 54, 52]⟩, .string ⟨#[100, 111, 117, 98, 108, 101]⟩, .string ⟨#[98, 105, 110, 97, 114, 121]⟩, .string ⟨#[108, 105, 115, 116]⟩, .string ⟨#[115, 101, 116]⟩, .string ⟨#[109, 97, 112]⟩, .string ⟨#[115, 116, 114, 117, 99, 116]⟩]) } : World) #[.slice none 0 0, .int .u64 0, .int .i64 0, .int .u8 0, .bool false] rfl (by kernel_rfl) (by kernel_rfl) (by kernel_rfl)
    (OpenSpec.preRow_of_B (laid := Rows.lawS194008CWholeRow.laid) (s := OpenSpec.ofChange Rows.lawS194008CWholeSpec) rfl 8 (by kernel_rfl) (by kernel_rfl) (laid_met os _)) F

/-- Arguments read on as they read. -/
theorem all_below {H : Type} {enc : TypeId × Value → H} {P : Program} (hl : laidOutB P = true) {W W' : World} (hb : Below W.heap.size W W') :
    ∀ {ts : List TypeId} {vs : List Value} {ds : List (DataW H)} {ps : List MemPlace}, (∀ t ∈ ts, P.readableRec t = true ∧ t < P.types.size) →
      DataW.TrodAll enc P W 0 (fun _ => true) true ts vs ds ps → (∀ x ∈ ps, x.block < W.heap.size) → DataW.TrodAll enc P W' 0 (fun b => decide (b < W.heap.size)) true ts vs ds ps
  | [], [], [], _, _, h, _ => h
  | t :: ts, v :: vs, d :: ds, ps, hr, ⟨p, q, h, hs, e⟩, hlt => by
    subst e
    obtain ⟨hr1, hr2⟩ := hr t (List.mem_cons_self)
    exact ⟨p, q, Below.trod hl hr1 hr2 h hb (fun x hx => hlt x (by simp [hx])), all_below hl hb (fun m hm => hr m (List.mem_cons_of_mem _ hm)) hs (fun x hx => hlt x (by simp [hx])), rfl⟩

set_option maxRecDepth 100000 in
set_option maxHeartbeats 1600000 in
theorem law_lifted (os : Os) (started : os.Started) (H : Type) (enc : TypeId × Value → H) :
    ReturnsInTold none {} Ybaf.checked os 3 .any Input.okWide ((OpenSpec.ofChange Rows.lawS194008CWholeSpec).preRow enc Ybaf.checked.prog Ybaf.f3 Rows.lawS194008CWholeRow.domain false Rows.lawS194008CWholeRow.laid)
      (fun F => ((OpenSpec.ofChange Rows.lawS194008CWholeSpec).at F).post enc Ybaf.checked.prog Ybaf.f3 false true false false) (aloneAtReturn Ybaf.checked.prog) nothingAlways := by
  refine returnsInTold_of_row (C := Ybaf.checked) (s := OpenSpec.ofChange Rows.lawS194008CWholeSpec) (by kernel_rfl) Ybaf.own started (by kernel_rfl) Ybaf.func3 (law_witness os H enc) ?_
  intro F W base args ds gs before _ hF hval0 hW _ _ hsz0 hL _
  have hval : ∀ (j : Nat) t v, Ybaf.f3.params[j]? = some t → args[j]? = some v → Value.okWide Ybaf.prog W .any base t v := hval0
  have hW' := hW
  obtain ⟨p, q, hA0, hV0, rfl, hfz, hnd⟩ := hW
  have hA : DataW.TrodAll enc Ybaf.prog W 0 (fun _ => true) true Ybaf.f3.params.toList args.toList ds p := hA0
  have hV : DataW.TrodVars enc Ybaf.prog W (fun _ => true) Rows.lawS194008CWholeSpec.vars gs q := hV0
  have hlt : ∀ x ∈ p ++ q, x.block < W.heap.size := fun x hx => hW'.lt x hx
  -- whatever the walk: the post
  have fin : ∀ (e : Ending) (W' : World), e = .returned (.bool true) ∧ Below W.heap.size W W' → ∃ v, e = .returned v ∧ ((OpenSpec.ofChange Rows.lawS194008CWholeSpec).at F.told).post enc Ybaf.checked.prog Ybaf.f3 false true false false W args v W' := by
    rintro e W' ⟨rfl, hB⟩
    have hAk := hA
    rw [Ybaf.params3] at hAk
    obtain ⟨v0, vs0, d0, ds0, p0, q0, hargs, rfl, rfl, h0, r0⟩ := trodAll_cons hAk
    obtain ⟨v1, vs1, d1, ds1, p1, q1, rfl, rfl, rfl, h1, r1⟩ := trodAll_cons r0
    obtain ⟨v2, vs2, d2, ds2, p2, q2, rfl, rfl, rfl, h2, r2⟩ := trodAll_cons r1
    obtain ⟨v3, vs3, d3, ds3, p3, q3, rfl, rfl, rfl, h3, r3⟩ := trodAll_cons r2
    obtain ⟨v4, vs4, d4, ds4, p4, q4, rfl, rfl, rfl, h4, r4⟩ := trodAll_cons r3
    obtain ⟨rfl, rfl, rfl⟩ := trodAll_nil r4
    obtain ⟨g0, t0, cs0, f0, e0, pp0, g1, t1, cs1, f1, e1, pp1, rfl, _⟩ := trodVars_two hV
    refine ⟨_, rfl, _, _, _, [], p0 ++ (p1 ++ (p2 ++ (p3 ++ (p4 ++ [])))), q, hW', ?_, ?_, ?_, hB.frame _, fun h => by cases h⟩
    · exact trodAll_mk1 (shut_bool Ybaf.underlying4 true)
    · exact all_below Ybaf.laidOut hB (by
        intro t ht
        have hm : t = 22 ∨ t = 23 ∨ t = 3 ∨ t = 5 ∨ t = 4 := by simpa [Ybaf.params3] using ht
        rcases hm with rfl | rfl | rfl | rfl | rfl <;> exact ⟨by kernel_rfl, of_decide_eq_true (by kernel_rfl)⟩) hA (fun x hx => hlt x (List.mem_append_left _ hx))
    · exact vars_below Ybaf.laidOut hB (by
        intro n hn g t hg ht
        rcases List.mem_cons.1 hn with rfl | hn
        · obtain rfl : 1 = g := Option.some.inj (by rw [← hg]; kernel_rfl)
          obtain rfl : 30 = t := Option.some.inj (by rw [← ht]; kernel_rfl)
          exact ⟨by kernel_rfl, of_decide_eq_true (by kernel_rfl)⟩
        rcases List.mem_cons.1 hn with rfl | hn
        · obtain rfl : 2 = g := Option.some.inj (by rw [← hg]; kernel_rfl)
          obtain rfl : 56 = t := Option.some.inj (by rw [← ht]; kernel_rfl)
          exact ⟨by kernel_rfl, of_decide_eq_true (by kernel_rfl)⟩
        · cases hn) hV (fun x hx => hlt x (by simp [hx]))
  -- what is listed
  have hL' : laidMet Ybaf.prog Rows.lawS194008CWholeRow.laid W := hL
  obtain ⟨a0, s0, hv0, _⟩ := laid_sentinel (g := 0) hL' (by kernel_rfl) (by kernel_rfl) Ybaf.underlying30 (Ybaf.row58 _ (by decide)) Ybaf.underlying58 Ybaf.underlying60 rfl rfl Ybaf.underlying9 Ybaf.cells60 Ybaf.cells9
  obtain ⟨a1, s1, hv1, _⟩ := laid_sentinel (g := 1) hL'.tail.tail (by kernel_rfl) (by kernel_rfl) Ybaf.underlying30 (Ybaf.row58 _ (by decide)) Ybaf.underlying58 Ybaf.underlying60 rfl rfl Ybaf.underlying9 Ybaf.cells60 Ybaf.cells9
  have hg0 : W.cell? ⟨0, 0, none⟩ = some (.iface 58 (.pointer (some a0))) := by simpa using World.var?_cell (g := 0) (by kernel_rfl) hv0 0
  have hg1 : W.cell? ⟨1, 0, none⟩ = some (.iface 58 (.pointer (some a1))) := by simpa using World.var?_cell (g := 1) (by kernel_rfl) hv1 0
  obtain ⟨hnames, h2⟩ := names_of hL'
  have hN : Named F.told W := ⟨hF, fun t h0 h1 => t_short F t h0 h1, hnames, h2⟩
  clear hL hL' hV hV0 hnd hfz hlt
  -- the arguments
  have hAk := hA
  rw [Ybaf.params3] at hAk hval
  obtain ⟨v0, vs0, d0, ds0, p0, q0, hargs, rfl, rfl, h0, r0⟩ := trodAll_cons hAk
  obtain ⟨v1, vs1, d1, ds1, p1, q1, rfl, rfl, rfl, h1, r1⟩ := trodAll_cons r0
  obtain ⟨v2, vs2, d2, ds2, p2, q2, rfl, rfl, rfl, hh2, r2⟩ := trodAll_cons r1
  obtain ⟨v3, vs3, d3, ds3, p3, q3, rfl, rfl, rfl, h3, r3⟩ := trodAll_cons r2
  obtain ⟨v4, vs4, d4, ds4, p4, q4, rfl, rfl, rfl, h4, r4⟩ := trodAll_cons r3
  obtain ⟨rfl, rfl, rfl⟩ := trodAll_nil r4
  obtain rfl : args = #[v0, v1, v2, v3, v4] := by apply Array.ext'; simpa using hargs
  obtain ⟨at_, rfl, rfl, rfl, wat⟩ := open_int Ybaf.underlying23 (hval 1 23 v1 rfl rfl) h1
  obtain ⟨depth, rfl, rfl, rfl, wdp⟩ := open_int Ybaf.underlying3 (hval 2 3 v2 rfl rfl) hh2
  obtain ⟨t, rfl, rfl, rfl, wt⟩ := open_int Ybaf.underlying5 (hval 3 5 v3 rfl rfl) h3
  obtain ⟨b, rfl, rfl, rfl⟩ := open_bool Ybaf.underlying4 (hval 4 4 v4 rfl rfl) h4
  have bat : 0 ≤ at_ ∧ at_ ≤ 18446744073709551615 := by
    simp [Lit.wf, IntKind.min, IntKind.max, IntKind.signed, IntKind.bits] at wat
    omega
  have bt : 0 ≤ t ∧ t ≤ 255 := by
    simp [Lit.wf, IntKind.min, IntKind.max, IntKind.signed, IntKind.bits] at wt
    omega
  obtain ⟨ao, len, cap, rfl⟩ := okWide_slice Ybaf.underlying22 (hval 0 22 v0 rfl rfl)
  by_cases hbig : 1048576 < len
  · refine (law_big ao len cap at_ depth t b W hbig).mono fun e W' ⟨he, hw⟩ => fin e W' ⟨he, ?_⟩
    subst hw; exact Below.refl _ _
  have hb : ∃ zs, Bytes W ao len cap zs := by
    obtain ⟨fuel, hf⟩ := h0
    rcases open_ints Ybaf.underlying22 Ybaf.underlying5 Ybaf.cells5 hf with ⟨hcs, hx⟩ | ⟨a, len', cap', zs, hcs, _, hl, hm, hz, hx, hcell, hwz⟩
    · simp [Value.cells] at hcs
      obtain ⟨rfl, rfl, rfl⟩ := hcs
      exact ⟨[], fun _ => ⟨rfl, rfl⟩, (fun _ h => by cases h), rfl, Nat.le_refl _, by omega, (fun j => by simp)⟩
    · simp [Value.cells] at hcs
      obtain ⟨rfl, rfl, rfl⟩ := hcs
      simp only [if_true] at hz
      refine ⟨zs.take len, (fun h => by cases h), ?_, by simp; omega, hl, by omega, ?_⟩
      · intro a' ha j hj
        cases ha
        rw [hcell j (by omega)]
        simp [hj]
      · intro j
        rcases Nat.lt_or_ge j (zs.take len).length with h | h
        · rw [List.getElem?_eq_getElem h]
          have hm2 : (zs.take len)[j] ∈ zs := List.mem_of_mem_take (List.getElem_mem h)
          have := hwz _ hm2
          generalize (zs.take len)[j] = z at this ⊢
          simp [Lit.wf, IntKind.min, IntKind.max, IntKind.signed, IntKind.bits] at this
          simp only [Option.getD_some]
          omega
        · rw [List.getElem?_eq_none h]; simp
  obtain ⟨zs, hb⟩ := hb
  by_cases hi : b = true ∨ (b = false ∧ t = 5)
  · by_cases hlen : 0 < len
    · cases ao with
      | none => have := (hb.nil rfl).1; omega
      | some a =>
        obtain ⟨bb, off, rfl, _⟩ := hb.plain hlen
        exact (law_some F.told bb off len cap zs at_ depth t b a0 a1 W hb bat.1 bat.2 hi hF (by omega) hg0 hg1).mono fin
    · obtain rfl : len = 0 := by omega
      exact (law_empty F.told ao cap (fun h => (hb.nil h).2) at_ depth t b a0 a1 W hi hF (by omega) hg0 hg1).mono fin
  · obtain rfl : b = false := by cases b <;> simp_all
    have h5 : (t == 5) = false := by
      rw [beq_eq_false_iff_ne]
      intro h
      exact hi (.inr ⟨rfl, h⟩)
    exact (law_bad F.told ao len cap zs at_ depth t W hb bat.1 bat.2 bt.1 bt.2 h5 hN).mono fin

theorem Ybaf.stopsAre : Rows.lawS194008CWholeRow.stops = Ybaf.pinned.checked.prog.stops := by kernel_rfl
theorem Ybaf.knobsAre : Ybaf.pinned.checked.prog.stopKnobs = [] := by kernel_rfl
theorem Ybaf.quiet (os : Os) : Stop.quiet Ybaf.pinned.checked.prog os := by
  intro k hk
  rw [Ybaf.knobsAre] at hk
  cases hk

set_option maxRecDepth 100000 in
theorem law_holds : Rows.LawS194008CWholeToldSaid :=
  Claim7.holds_of_told_tied_any_at .later 3 Ybaf.f3 _ _ [] _ _ _ _ _ (by kernel_rfl) rfl rfl rfl Ybaf.laidOut (by kernel_rfl) rfl ⟨rfl, rfl, rfl, rfl, rfl, rfl, rfl⟩ rfl rfl (by kernel_rfl) (by kernel_rfl) Ybaf.func3 (by kernel_rfl)
    (of_decide_eq_true (by kernel_rfl)) (by unfold Func.isWrapper; rw [if_neg (of_decide_eq_false (by kernel_rfl))]; exact ⟨rfl, rfl⟩) Ybaf.stopsAre rfl Ybaf.knobsAre.symm (by kernel_rfl)
    (by kernel_rfl) (by kernel_rfl) (by kernel_rfl) (by kernel_rfl) (by kernel_rfl) (by kernel_rfl) (by kernel_rfl) (by kernel_rfl) (by kernel_rfl) rfl (by kernel_rfl) rfl rfl
    rfl rfl
    rfl (by kernel_rfl) (by kernel_rfl) (by kernel_rfl) (by decide) (by kernel_rfl) lawS194008CWhole_row_tie
    (OpenClaim.moreEntering_of (by kernel_rfl) (by kernel_rfl) (by kernel_rfl) (by kernel_rfl) (by kernel_rfl) (by kernel_rfl) (by kernel_rfl) (by kernel_rfl) (by kernel_rfl) (by kernel_rfl))
    ⟨_, WideRow.started_initial, Ybaf.quiet _⟩
    (fun os started _ H enc _ => law_lifted os started H enc)
end Go.Proofs.YbulkexmwwFmt
