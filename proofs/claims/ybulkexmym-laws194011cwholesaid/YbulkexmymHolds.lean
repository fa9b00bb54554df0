/-
  FROM THE WALK TO THE ROW of ligature.LawS194011CWhole.
-/
import Derived.Test.YbulkexmymLaw
import Derived.ProofKit
import Derived.SizedLaws
import Derived.ChangeMaps5
import Derived.Deep.Slices
import Derived.Deep.Strs
import Derived.Deep.Modes
import Derived.Deep.Frames
namespace Go.Proofs.Ybulkexmym
open Go.ChangeShapes Go.WideShapes Go.ChangeAt Go.RowKit Go.Deep
open Go.ChangeMaps (open_string)

theorem Yba.ownKnob : ownKnob Yba.prog.godebug = none := by kernel_rfl
theorem Yba.laidOut : laidOutB Yba.prog = true := by kernel_rfl
theorem Yba.cells5 : Yba.prog.cellsOf 5 = 1 := by kernel_rfl
theorem Yba.cells23 : Yba.prog.cellsOf 23 = 1 := by kernel_rfl
theorem Yba.cells9 : Yba.prog.cellsOf 9 = 1 := by kernel_rfl
theorem Yba.cellsOp : Yba.prog.cellsOf 36 = 3 := by kernel_rfl
theorem Yba.bytesOp : 1 ≤ Yba.prog.bytesOf 36 := of_decide_eq_true (by kernel_rfl)
theorem reach_eq : reachBytes = 140737488351232 := rfl

/-- Arguments read on as they read. -/
theorem all_below {H : Type} {enc : TypeId × Value → H} {P : Program} (hl : laidOutB P = true) {W W' : World} (hb : Below W.heap.size W W') :
    ∀ {ts : List TypeId} {vs : List Value} {ds : List (DataW H)} {ps : List MemPlace}, (∀ t ∈ ts, P.readableRec t = true ∧ t < P.types.size) →
      DataW.TrodAll enc P W 0 (fun _ => true) true ts vs ds ps → (∀ x ∈ ps, x.block < W.heap.size) → DataW.TrodAll enc P W' 0 (fun b => decide (b < W.heap.size)) true ts vs ds ps
  | [], [], [], _, _, h, _ => h
  | t :: ts, v :: vs, d :: ds, ps, hr, ⟨p, q, h, hs, e⟩, hlt => by
    subst e
    obtain ⟨hr1, hr2⟩ := hr t (List.mem_cons_self)
    exact ⟨p, q, Below.trod hl hr1 hr2 h hb (fun x hx => hlt x (by simp [hx])), all_below hl hb (fun m hm => hr m (List.mem_cons_of_mem _ hm)) hs (fun x hx => hlt x (by simp [hx])), rfl⟩

/-- One step of the script: its three cells. -/
theorem open_op {H : Type} {enc : TypeId × Value → H} {W : World} {fuel : Nat} {cs : List Value} {x : DataW H × List MemPlace} (h : DataW.trod enc Yba.prog W 0 (fun _ => true) true fuel 36 cs = some x) :
    ∃ (o a : Nat) (s : ByteArray), cs = [.int .u8 (o : Nat), .int .u32 (a : Nat), .string s] ∧ o < 256 ∧ a < 4294967296 := by
  obtain ⟨y0, y1, y2, n, _, hl, h0, h1, h2⟩ := trod_struct3 Yba.underlying36 h
  rw [Yba.cellsOp] at hl
  match cs, hl with
  | [c0, c1, c2], _ =>
    simp only [Yba.cells5, Yba.cells23, Yba.cells9, List.drop, List.take] at h0 h1 h2
    obtain ⟨o, e0, _, w0⟩ := DataW.trod_int Yba.underlying5 h0
    obtain ⟨a, e1, _, w1⟩ := DataW.trod_int Yba.underlying23 h1
    obtain ⟨s, e2, _, _⟩ := DataW.trod_string Yba.underlying9 h2
    simp at e0 e1 e2
    subst e0 e1 e2
    have b0 : 0 ≤ o ∧ o < 256 := by
      simp [Lit.wf, IntKind.min, IntKind.max, IntKind.signed, IntKind.bits] at w0
      omega
    have b1 : 0 ≤ a ∧ a < 4294967296 := by
      simp [Lit.wf, IntKind.min, IntKind.max, IntKind.signed, IntKind.bits] at w1
      omega
    exact ⟨o.toNat, a.toNat, s, by rw [Int.toNat_of_nonneg b0.1, Int.toNat_of_nonneg b1.1], by omega, by omega⟩

set_option maxHeartbeats 1600000 in
set_option maxRecDepth 100000 in
theorem law_lifted (os : Os) (started : os.Started) (H : Type) (enc : TypeId × Value → H) :
    ReturnsInHanded {} Yba.checked os 3 .any (Rows.lawS194011CWholeSpec.pre6 enc Yba.prog Yba.f3 Rows.lawS194011CWholeRow.domain false) (Rows.lawS194011CWholeSpec.post enc Yba.prog Yba.f3 false true false false) := by
  refine returnsInHanded_of_change_sized (C := Yba.checked) Yba.ownKnob started (by kernel_rfl) Yba.func3
    (ChangeSpec.witness6 (enc := enc) (C := Yba.checked) false ⟨#[], #[.slice none 0 0, .int .u32 0, .string ⟨#[]⟩, .bool false], []⟩ 8 (by kernel_rfl) (by kernel_rfl) (by kernel_rfl) (by kernel_rfl)) ?_
  intro W base args ds gs before hval0 hW _ hsz0 _
  have hsz : (DataW.weightsEach Yba.prog (Yba.f3.params.toList ++ Rows.lawS194011CWholeSpec.plain.varTypes Yba.prog) (ds ++ gs)).all (· ≤ reachBytes) = true := hsz0
  clear hsz0
  have hval : ∀ (j : Nat) t v, Yba.f3.params[j]? = some t → args[j]? = some v → Value.okWide Yba.prog W .any base t v := hval0
  have hW' := hW
  obtain ⟨p, q, hA0, hV, rfl, hfz, _⟩ := hW
  have hA : DataW.TrodAll enc Yba.prog W 0 (fun _ => true) true Yba.f3.params.toList args.toList ds p := hA0
  obtain ⟨rfl, rfl⟩ := trodVars_none hV
  simp only [List.append_nil] at hW' hfz hsz
  have hlt : ∀ x ∈ p, x.block < W.heap.size := fun x hx => hW'.lt x (by simp [hx])
  have hAk := hA
  rw [Yba.params3] at hAk hval hsz
  obtain ⟨v0, vs0, d0, ds0, p0, q0, hargs, rfl, rfl, t0, r0⟩ := trodAll_cons hAk
  obtain ⟨v1, vs1, d1, ds1, p1, q1, rfl, rfl, rfl, t1, r1⟩ := trodAll_cons r0
  obtain ⟨v2, vs2, d2, ds2, p2, q2, rfl, rfl, rfl, t2, r2⟩ := trodAll_cons r1
  obtain ⟨v3, vs3, d3, ds3, p3, q3, rfl, rfl, rfl, t3, r3⟩ := trodAll_cons r2
  obtain ⟨rfl, rfl, rfl⟩ := trodAll_nil r3
  obtain rfl : args = #[v0, v1, v2, v3] := by apply Array.ext'; simpa using hargs
  have tail : ∀ (e : Ending) (W' : World), e = .returned (.bool true) ∧ Below W.heap.size W W' →
      ∃ v, e = .returned v ∧ Rows.lawS194011CWholeSpec.post enc Yba.checked.prog Yba.f3 false true false false W #[v0, v1, v2, v3] v W' := by
    rintro e W' ⟨rfl, hB⟩
    refine ⟨_, rfl, _, _, _, [], p0 ++ (p1 ++ (p2 ++ (p3 ++ []))), [], hW', trodAll_mk1 (shut_bool Yba.underlying4 true), ?_, rfl, hB.frame _, fun h => by cases h⟩
    exact all_below Yba.laidOut hB (by
        intro t ht
        have hm : t = 22 ∨ t = 23 ∨ t = 9 ∨ t = 4 := by simpa [Yba.params3] using ht
        rcases hm with rfl | rfl | rfl | rfl <;> exact ⟨by kernel_rfl, of_decide_eq_true (by kernel_rfl)⟩) hA hlt
  clear hA0 hval0 hA hAk r0 r1 r2 r3 hfz hlt hargs hW'
  obtain ⟨wn, rfl, rfl, rfl, wwn⟩ := open_int Yba.underlying23 (hval 1 23 v1 rfl rfl) t1
  obtain ⟨dd, rfl, rfl, rfl, _⟩ := open_string Yba.underlying9 (hval 2 9 v2 rfl rfl) t2
  obtain ⟨b, rfl, rfl, rfl⟩ := open_bool Yba.underlying4 (hval 3 4 v3 rfl rfl) t3
  have bwn : 0 ≤ wn ∧ wn < 4294967296 := by
    simp [Lit.wf, IntKind.min, IntKind.max, IntKind.signed, IntKind.bits] at wwn
    omega
  obtain ⟨wk, rfl⟩ : ∃ k : Nat, wn = k := ⟨wn.toNat, by omega⟩
  obtain ⟨a0, len, cap, rfl⟩ := okWide_slice Yba.underlying22 (hval 0 22 v0 rfl rfl)
  obtain ⟨fuel, hf⟩ := t0
  rcases open_slice Yba.underlying22 hf with ⟨hcs, hx⟩ | ⟨a, len', cap', m, n, D, Pl, hcs, _, hl, hm, hmm, hx, hel⟩
  · simp [Value.cells] at hcs
    obtain ⟨rfl, rfl, rfl⟩ := hcs
    exact (law_any none 0 0 0 0 (fun _ => 0) (fun _ => 0) (fun _ => default) wk dd b W (fun h => absurd h (Nat.lt_irrefl _)) (fun _ h => absurd h (Nat.not_lt_zero _)) (fun _ h => absurd h (Nat.not_lt_zero _)) (fun _ h => absurd h (Nat.not_lt_zero _)) (by omega) (by omega)).mono tail
  simp [Value.cells] at hcs
  obtain ⟨rfl, rfl, rfl⟩ := hcs
  simp only [Prod.mk.injEq] at hx
  obtain ⟨rfl, rfl⟩ := hx
  simp only [if_true] at hmm
  subst hmm
  have hout := sized_slice hsz (j := 0) (t := 22) (e := 36) rfl rfl Yba.underlying22
  simp only [List.length_map, List.length_range, reach_eq] at hout
  have hGb : len ≤ 140737488351232 := by
    have h1 := Nat.mul_le_mul_left (len + (m - len)) Yba.bytesOp
    omega
  obtain ⟨O, hO⟩ := choose_lt (α := Nat × Nat × ByteArray) (n := len) (p := fun i o => W.cell? (a.add (i * 3)) = some (.int .u8 (o.1 : Nat)) ∧ W.cell? ((a.add (i * 3)).add 1) = some (.int .u32 (o.2.1 : Nat)) ∧ W.cell? ((a.add (i * 3)).add 2) = some (.string o.2.2) ∧ o.1 < 256 ∧ o.2.1 < 4294967296) (fun i hi => by
    obtain ⟨cs', h1, h2⟩ := hel i (by omega)
    rw [Yba.cellsOp] at h1
    obtain ⟨o, ar, s, rfl, b0, b1⟩ := open_op h2
    obtain ⟨_, _, hc⟩ := World.cells?_some h1
    exact ⟨(o, ar, s), by simpa [Addr.add] using hc 0 (by omega), by simpa using hc 1 (by omega), by simpa using hc 2 (by omega), b0, b1⟩)
  obtain ⟨gb, go, gs⟩ := a
  rcases Nat.eq_zero_or_pos len with hl0 | hlp
  · subst hl0
    exact (law_any (some ⟨gb, go, gs⟩) 0 0 0 m (fun _ => 0) (fun _ => 0) (fun _ => default) wk dd b W (fun h => absurd h (Nat.lt_irrefl _)) (fun _ h => absurd h (Nat.not_lt_zero _)) (fun _ h => absurd h (Nat.not_lt_zero _)) (fun _ h => absurd h (Nat.not_lt_zero _)) (by omega) (by omega)).mono tail
  have hgs : gs = none := by simpa [Addr.add] using World.cell?_spot (hO 0 hlp).1
  subst hgs
  exact (law_any (some ⟨gb, go, none⟩) gb go len m (fun r => (O r).1) (fun r => (O r).2.1) (fun r => (O r).2.2) wk dd b W (fun _ => rfl)
    (fun r hr => ⟨by have := (hO r hr).1; rwa [add_plain] at this, (hO r hr).2.2.2.1⟩)
    (fun r hr => ⟨by have := (hO r hr).2.1; rwa [add_plain, add_plain] at this, (hO r hr).2.2.2.2⟩)
    (fun r hr => by have := (hO r hr).2.2.1; rwa [add_plain, add_plain] at this) (by omega) hGb).mono tail

theorem law_holds : Rows.LawS194011CWholeSaid :=
  OpenClaim.holds_of_wide 3 Yba.f3 rfl rfl rfl rfl rfl rfl rfl ⟨rfl, rfl, rfl, rfl, rfl⟩ rfl rfl rfl rfl rfl (by kernel_rfl) Yba.func3 (by kernel_rfl)
    (of_decide_eq_true (by kernel_rfl)) (by unfold Func.isWrapper; rw [if_neg (of_decide_eq_false (by kernel_rfl))]; exact ⟨rfl, rfl⟩)
    (fun os started H enc _ => law_lifted os started H enc)
end Go.Proofs.Ybulkexmym
