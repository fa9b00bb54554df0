/-
  FROM THE WALK TO THE ROW of sink.LawS194012CWhole.
-/
import Derived.Test.YbulkexmzaLawC
import Derived.ProofKit
import Derived.SizedLaws
import Derived.Deep.Matrix
import Derived.Deep.Modes
import Derived.Deep.Frames
namespace Go.Proofs.Ybulkexmza
open Go.ChangeShapes Go.WideShapes Go.ChangeAt Go.RowKit Go.Deep

theorem Yba.own : ownKnob Yba.prog.godebug = none := by kernel_rfl
theorem Yba.laidOut : laidOutB Yba.prog = true := by kernel_rfl
theorem Yba.cells50 : Yba.prog.cellsOf 50 = 1 := by kernel_rfl
theorem Yba.cells23 : Yba.prog.cellsOf 23 = 1 := by kernel_rfl
theorem Yba.bytes50 : Yba.prog.bytesOf 50 = 24 := by kernel_rfl
theorem Yba.bytes23 : Yba.prog.bytesOf 23 = 2 := by kernel_rfl
theorem reach_eq : reachBytes = 140737488351232 := rfl

theorem weightsAll_mem {H : Type} {P : Program} {e : TypeId} : ∀ {l : List (DataW H)} {d : DataW H}, d ∈ l → ∀ n ∈ d.weights P e, n ∈ DataW.weightsAll P e l
  | d' :: r, d, hd, n, hn => by
    simp only [DataW.weightsAll, List.mem_append]
    rcases List.mem_cons.1 hd with rfl | h
    · exact Or.inl hn
    · exact Or.inr (weightsAll_mem h n hn)

/-- The form's own reach, of a row inside a slice of slices. -/
theorem sized_inner {H : Type} {P : Program} {ts : List TypeId} {ds : List (DataW H)} (h : (DataW.weightsEach P ts ds).all (· ≤ reachBytes) = true) {j : Nat} {t e q : TypeId} {elems spare e' sp' : List (DataW H)}
    (ht : ts[j]? = some t) (hd : ds[j]? = some (.slice elems spare)) (hu : P.underlying t = some (.slice e)) (hu2 : P.underlying e = some (.slice q)) (hx : DataW.slice e' sp' ∈ elems) : (e'.length + sp'.length) * P.bytesOf q ≤ reachBytes := by
  refine of_decide_eq_true (List.all_eq_true.1 h _ (DataW.weights_mem_each ht hd _ ?_))
  simp only [DataW.weights, hu, List.mem_cons, List.mem_append]
  exact Or.inr (Or.inl (weightsAll_mem hx _ (by simp [DataW.weights, hu2])))

set_option maxHeartbeats 1600000 in
set_option maxRecDepth 100000 in
theorem lawC_lifted (os : Os) (started : os.Started) (H : Type) (enc : TypeId × Value → H) :
    ReturnsInHanded {} Yba.checked os 4 .any (Rows.lawS194012CWholeSpec.pre6 enc Yba.prog Yba.f4 Rows.lawS194012CWholeRow.domain false) (Rows.lawS194012CWholeSpec.post enc Yba.prog Yba.f4 false true false false) := by
  refine returnsInHanded_of_change_sized (C := Yba.checked) Yba.own started (by kernel_rfl) Yba.func4
    (ChangeSpec.witness6 (enc := enc) (C := Yba.checked) false ⟨#[], #[.slice none 0 0], []⟩ 8 (by kernel_rfl) (by kernel_rfl) (by kernel_rfl) (by kernel_rfl)) ?_
  intro W base args ds gs before hval0 hW _ hsz0 _
  have hsz : (DataW.weightsEach Yba.prog (Yba.f4.params.toList ++ Rows.lawS194012CWholeSpec.plain.varTypes Yba.prog) (ds ++ gs)).all (· ≤ reachBytes) = true := hsz0
  clear hsz0
  have hval : ∀ (j : Nat) t v, Yba.f4.params[j]? = some t → args[j]? = some v → Value.okWide Yba.prog W .any base t v := hval0
  have hW' := hW
  obtain ⟨p, q, hA0, hV, rfl, hfz, _⟩ := hW
  have hA : DataW.TrodAll enc Yba.prog W 0 (fun _ => true) true Yba.f4.params.toList args.toList ds p := hA0
  rw [Yba.params4] at hA hval hsz
  obtain ⟨v0, d0, rfl, rfl, h0⟩ := trodAll_one hA
  obtain ⟨rfl, rfl⟩ := trodVars_none hV
  obtain ⟨a0, len, cap, rfl⟩ := okWide_slice Yba.underlying49 (hval 0 49 v0 rfl rfl)
  have h0k := h0
  obtain ⟨fuel, hf⟩ := h0
  clear hA0 hval0 hA
  simp only [List.append_nil] at hW' hfz hsz
  have hlt : ∀ x ∈ p, x.block < W.heap.size := fun x hx => hW'.lt x (by simp [hx])
  have tail : ∀ (e : Ending) (W' : World), e = .returned (.bool true) ∧ W.Since W.heap.size W' →
      ∃ v, e = .returned v ∧ Rows.lawS194012CWholeSpec.post enc Yba.checked.prog Yba.f4 false true false false W #[.slice a0 len cap] v W' := by
    rintro e W' ⟨rfl, hO⟩
    have ARG : DataW.Trod enc Yba.prog W' 0 (fun x => decide (x < W.heap.size)) true 49 (.slice a0 len cap) d0 p :=
      WideElems.Trod_stays Yba.laidOut (by kernel_rfl) (of_decide_eq_true (by kernel_rfl)) h0k (fun x hx => hO.sameAt (hlt x hx)) (fun x hx => by simpa using hlt x hx)
    exact ⟨_, rfl, _, _, _, [], p, [], hW', trodAll_mk1 (shut_bool Yba.underlying4 true), trodAll_mk1 ARG, rfl, hO.frame _, fun h => by cases h⟩
  rcases open_int_rows Yba.underlying49 Yba.underlying50 Yba.underlying23 Yba.cells50 Yba.cells23 hf with ⟨hcs, hx⟩ | ⟨a, len', cap', A, L, C, Z, hcs, _, hl, hm, hx, hrows⟩
  · simp [Value.cells] at hcs
    obtain ⟨rfl, rfl, rfl⟩ := hcs
    exact (law_any none 0 0 0 0 (fun _ => none) (fun _ => 0) (fun _ => 0) (fun _ => 0) (fun _ => 0) (fun _ _ => 0) W (fun h => absurd h (Nat.lt_irrefl _)) (by omega) (fun _ h => absurd h (Nat.not_lt_zero _)) (fun _ _ => rfl)
      (fun _ h => absurd h (Nat.not_lt_zero _)) (fun _ h => absurd h (Nat.not_lt_zero _))).mono tail
  simp [Value.cells] at hcs
  obtain ⟨rfl, rfl, rfl⟩ := hcs
  simp only [Prod.mk.injEq] at hx
  obtain ⟨rfl, rfl⟩ := hx
  have hout := sized_slice hsz (j := 0) (t := 49) (e := 50) rfl rfl Yba.underlying49
  simp only [List.length_map, List.length_range, Yba.bytes50, reach_eq] at hout
  have hLb : ∀ r, r < len → L r ≤ 70368744177664 := fun r hr => by
    obtain ⟨_, h1, _, h3, _, h5, _⟩ := hrows r (by omega)
    cases hA : A r with
    | none => have := h5 hA; omega
    | some a' =>
      have hin := sized_inner hsz (j := 0) (t := 49) (e := 50) (q := 23) rfl rfl Yba.underlying49 Yba.underlying50
        (e' := lits .u16 ((Z r).take (L r))) (sp' := lits .u16 ((Z r).drop (L r)))
        (List.mem_map.2 ⟨r, List.mem_range.2 hr, by simp [intRow, hA]⟩)
      simp only [lits, List.length_map, List.length_take, List.length_drop, Yba.bytes23, reach_eq] at hin
      omega
  obtain ⟨gb, go, gs⟩ := a
  rcases Nat.eq_zero_or_pos len with hl0 | hlp
  · subst hl0
    exact (law_any (some ⟨gb, go, gs⟩) 0 0 0 cap A (fun _ => 0) C (fun _ => 0) (fun _ => 0) (fun _ _ => 0) W (fun h => absurd h (Nat.lt_irrefl _)) (by omega) (fun _ h => absurd h (Nat.not_lt_zero _)) (fun _ _ => rfl)
      (fun _ h => absurd h (Nat.not_lt_zero _)) (fun _ h => absurd h (Nat.not_lt_zero _))).mono tail
  have hgs : gs = none := by simpa [Addr.add] using World.cell?_spot (hrows 0 (by omega)).1
  subst hgs
  have hrow : ∀ r, r < len → W.cell? ⟨gb, go + r, none⟩ = some (.slice (A r) ((fun j => if j < len then L j else 0) r) (C r)) := fun r hr => by
    simp only [if_pos hr]
    rw [← add_plain]; exact (hrows r (by omega)).1
  have hAdr : ∀ r, r < len → ∀ c, c < (fun j => if j < len then L j else 0) r → A r = some ⟨((A r).getD default).block, ((A r).getD default).off, none⟩ ∧
      W.cell? ⟨((A r).getD default).block, ((A r).getD default).off + c, none⟩ = some (.int .u16 (((fun r c => ((Z r).getD c 0).toNat) r c : Nat) : Int)) ∧ (fun r c => ((Z r).getD c 0).toNat) r c < 65536 := fun r hr c hc => by
    simp only [if_pos hr] at hc
    obtain ⟨_, h1, _, h3, hwf, h5, h4⟩ := hrows r (by omega)
    cases hA : A r with
    | none => have := h5 hA; omega
    | some a' =>
      obtain ⟨ab, ao, asp⟩ := a'
      obtain ⟨_, hcell⟩ := h4 _ hA
      have has : asp = none := by simpa [Addr.add] using World.cell?_spot (hcell 0 (by omega))
      subst has
      have hcl : c < (Z r).length := by omega
      have hz := hwf _ (List.getElem_mem hcl)
      have hz' : 0 ≤ (Z r)[c] ∧ (Z r)[c] < 65536 := by
        simp [Lit.wf, IntKind.min, IntKind.max, IntKind.signed, IntKind.bits] at hz
        omega
      have hg : (Z r).getD c 0 = (Z r)[c] := by simp [hcl]
      refine ⟨rfl, ?_, ?_⟩
      · have := hcell c (by omega)
        rw [add_plain] at this
        rw [hg] at this
        show W.cell? ⟨ab, ao + c, none⟩ = some (.int .u16 ((((Z r).getD c 0).toNat : Nat) : Int))
        rw [this, hg, Int.toNat_of_nonneg hz'.1]
      · show ((Z r).getD c 0).toNat < 65536
        rw [hg]; omega
  exact (law_any (some ⟨gb, go, none⟩) gb go len cap A (fun j => if j < len then L j else 0) C _ _ (fun r c => ((Z r).getD c 0).toNat) W (fun _ => rfl) (by omega)
    (fun r hr => by simp only [if_pos hr]; exact hLb r hr) (fun j hj => if_neg (by omega)) hrow hAdr).mono tail

theorem lawC_holds : Rows.LawS194012CWholeSaid :=
  OpenClaim.holds_of_wide 4 Yba.f4 rfl rfl rfl rfl rfl rfl rfl ⟨rfl, rfl, rfl, rfl, rfl⟩ rfl rfl rfl rfl rfl (by kernel_rfl) Yba.func4 (by kernel_rfl)
    (of_decide_eq_true (by kernel_rfl)) (by unfold Func.isWrapper; rw [if_neg (of_decide_eq_false (by kernel_rfl))]; exact ⟨rfl, rfl⟩)
    (fun os started H enc _ => lawC_lifted os started H enc)
end Go.Proofs.Ybulkexmza
