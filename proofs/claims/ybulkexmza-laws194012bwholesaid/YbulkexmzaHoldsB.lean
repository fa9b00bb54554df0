/-
  FROM THE WALK TO THE ROW of link.LawS194012BWhole.
-/
import Derived.Test.YbulkexmzaLawB
import Derived.ProofKit
import Derived.SizedLaws
import Derived.Deep.Slices
import Derived.Deep.Modes
import Derived.Deep.Frames
namespace Go.Proofs.Ybulkexmza
open Go.ChangeShapes Go.WideShapes Go.ChangeAt Go.RowKit Go.Deep

theorem Yba.ownB : ownKnob Yba.prog.godebug = none := by kernel_rfl
theorem Yba.laidOutB : laidOutB Yba.prog = true := by kernel_rfl
theorem Yba.cells26 : Yba.prog.cellsOf 26 = 4 := by kernel_rfl
theorem Yba.cells32 : Yba.prog.cellsOf 32 = 5 := by kernel_rfl
theorem Yba.cells9 : Yba.prog.cellsOf 9 = 1 := by kernel_rfl
theorem Yba.cells5 : Yba.prog.cellsOf 5 = 1 := by kernel_rfl
theorem Yba.cellsU16 : Yba.prog.cellsOf 23 = 1 := by kernel_rfl
theorem Yba.cells24 : Yba.prog.cellsOf 24 = 1 := by kernel_rfl
theorem Yba.bytes26 : 1 ≤ Yba.prog.bytesOf 26 := of_decide_eq_true (by kernel_rfl)
theorem Yba.bytes32 : 1 ≤ Yba.prog.bytesOf 32 := of_decide_eq_true (by kernel_rfl)
theorem reachB_eq : reachBytes = 140737488351232 := rfl

theorem weightsAll_memB {H : Type} {P : Program} {e : TypeId} : ∀ {l : List (DataW H)} {d : DataW H}, d ∈ l → ∀ n ∈ d.weights P e, n ∈ DataW.weightsAll P e l
  | d' :: r, d, hd, n, hn => by
    simp only [DataW.weightsAll, List.mem_append]
    rcases List.mem_cons.1 hd with rfl | h
    · exact Or.inl hn
    · exact Or.inr (weightsAll_memB h n hn)

theorem nat_u8 {o : Int} (w0 : (Lit.int .u8 o).wf = true) : ∃ n : Nat, o = n ∧ n < 256 := by
  have b0 : 0 ≤ o ∧ o < 256 := by
    simp [Lit.wf, IntKind.min, IntKind.max, IntKind.signed, IntKind.bits] at w0
    omega
  exact ⟨o.toNat, by omega, by omega⟩
theorem nat_u16 {o : Int} (w0 : (Lit.int .u16 o).wf = true) : ∃ n : Nat, o = n ∧ n < 65536 := by
  have b0 : 0 ≤ o ∧ o < 65536 := by
    simp [Lit.wf, IntKind.min, IntKind.max, IntKind.signed, IntKind.bits] at w0
    omega
  exact ⟨o.toNat, by omega, by omega⟩

section
variable {H : Type} {enc : TypeId × Value → H} {W : World}

theorem struct4 {P : Program} {t : TypeId} {f0 f1 f2 f3 : Field} {fuel : Nat} {cs : List Value} {x : DataW H × List MemPlace} (ht : P.underlying t = some (.struct #[f0, f1, f2, f3])) (h : DataW.trod enc P W 0 (fun _ => true) true fuel t cs = some x) :
    ∃ y0 y1 y2 y3 n, x = (.agg [y0.1, y1.1, y2.1, y3.1], y0.2 ++ (y1.2 ++ (y2.2 ++ y3.2))) ∧ cs.length = P.cellsOf t ∧ DataW.trod enc P W 0 (fun _ => true) true n f0.type ((cs.drop f0.offset).take (P.cellsOf f0.type)) = some y0 ∧ DataW.trod enc P W 0 (fun _ => true) true n f1.type ((cs.drop f1.offset).take (P.cellsOf f1.type)) = some y1 ∧
      DataW.trod enc P W 0 (fun _ => true) true n f2.type ((cs.drop f2.offset).take (P.cellsOf f2.type)) = some y2 ∧ DataW.trod enc P W 0 (fun _ => true) true n f3.type ((cs.drop f3.offset).take (P.cellsOf f3.type)) = some y3 := by
  obtain ⟨xs, n, _, hx, hl, hlen, hf⟩ := DataW.trod_struct ht h
  match xs, hlen with
  | [y0, y1, y2, y3], _ => exact ⟨y0, y1, y2, y3, n, by rw [hx]; simp, hl, by simpa using hf 0 f0 rfl, by simpa using hf 1 f1 rfl, by simpa using hf 2 f2 rfl, by simpa using hf 3 f3 rfl⟩
theorem struct5 {P : Program} {t : TypeId} {f0 f1 f2 f3 f4 : Field} {fuel : Nat} {cs : List Value} {x : DataW H × List MemPlace} (ht : P.underlying t = some (.struct #[f0, f1, f2, f3, f4])) (h : DataW.trod enc P W 0 (fun _ => true) true fuel t cs = some x) :
    ∃ y0 y1 y2 y3 y4 n, cs.length = P.cellsOf t ∧ DataW.trod enc P W 0 (fun _ => true) true n f0.type ((cs.drop f0.offset).take (P.cellsOf f0.type)) = some y0 ∧ DataW.trod enc P W 0 (fun _ => true) true n f1.type ((cs.drop f1.offset).take (P.cellsOf f1.type)) = some y1 ∧
      DataW.trod enc P W 0 (fun _ => true) true n f2.type ((cs.drop f2.offset).take (P.cellsOf f2.type)) = some y2 ∧ DataW.trod enc P W 0 (fun _ => true) true n f3.type ((cs.drop f3.offset).take (P.cellsOf f3.type)) = some y3 ∧ DataW.trod enc P W 0 (fun _ => true) true n f4.type ((cs.drop f4.offset).take (P.cellsOf f4.type)) = some y4 := by
  obtain ⟨xs, n, _, _, hl, hlen, hf⟩ := DataW.trod_struct ht h
  match xs, hlen with
  | [y0, y1, y2, y3, y4], _ => exact ⟨y0, y1, y2, y3, y4, n, hl, by simpa using hf 0 f0 rfl, by simpa using hf 1 f1 rfl, by simpa using hf 2 f2 rfl, by simpa using hf 3 f3 rfl, by simpa using hf 4 f4 rfl⟩

/-- One symbol: its five cells. -/
theorem open_sym {fuel : Nat} {cs : List Value} {x : DataW H × List MemPlace} (h : DataW.trod enc Yba.prog W 0 (fun _ => true) true fuel 32 cs = some x) :
    ∃ (n : ByteArray) (k d z a : Nat), cs = [.string n, .int .u8 (k : Nat), .int .u8 (d : Nat), .int .u16 (z : Nat), .int .u8 (a : Nat)] ∧ n.size ≤ maxLen ∧ k < 256 ∧ d < 256 ∧ z < 65536 ∧ a < 256 := by
  obtain ⟨y0, y1, y2, y3, y4, n, hl, f0, f1, f2, f3, f4⟩ := struct5 Yba.underlying32 h
  rw [Yba.cells32] at hl
  match cs, hl with
  | [c0, c1, c2, c3, c4], _ =>
    simp only [Yba.cells9, Yba.cells5, Yba.cellsU16, List.drop, List.take] at f0 f1 f2 f3 f4
    obtain ⟨s, e0, _, hs⟩ := DataW.trod_string Yba.underlying9 f0
    obtain ⟨o1, e1, _, w1⟩ := DataW.trod_int Yba.underlying5 f1
    obtain ⟨o2, e2, _, w2⟩ := DataW.trod_int Yba.underlying5 f2
    obtain ⟨o3, e3, _, w3⟩ := DataW.trod_int Yba.underlying23 f3
    obtain ⟨o4, e4, _, w4⟩ := DataW.trod_int Yba.underlying5 f4
    simp at e0 e1 e2 e3 e4
    subst e0 e1 e2 e3 e4
    obtain ⟨k, rfl, hk⟩ := nat_u8 w1
    obtain ⟨d, rfl, hd⟩ := nat_u8 w2
    obtain ⟨z, rfl, hz⟩ := nat_u16 w3
    obtain ⟨a, rfl, ha⟩ := nat_u8 w4
    exact ⟨s, k, d, z, a, rfl, hs, hk, hd, hz, ha⟩

/-- A family over two indices. -/
theorem choose_lt2 {α : Type} [Inhabited α] {G : Nat} {L : Nat → Nat} {p : Nat → Nat → α → Prop} (h : ∀ r, r < G → ∀ j, j < L r → ∃ x, p r j x) : ∃ f : Nat → Nat → α, ∀ r, r < G → ∀ j, j < L r → p r j (f r j) := by
  classical
  refine ⟨fun r j => if hh : r < G ∧ j < L r then Classical.choose (h r hh.1 j hh.2) else default, fun r hr j hj => ?_⟩
  simp only [dif_pos (show r < G ∧ j < L r from ⟨hr, hj⟩)]
  exact Classical.choose_spec (h r hr j hj)

/-- What is known of one part: its four cells, and its row of symbols. -/
structure PartAt (W : World) (p : Addr) (nm : ByteArray) (k i : Nat) (a : Option Addr) (l c : Nat) : Prop where
  c0 : W.cell? p = some (.string nm)
  c1 : W.cell? (p.add 1) = some (.int .u8 (k : Nat))
  c2 : W.cell? (p.add 2) = some (.int .u16 (i : Nat))
  c3 : W.cell? (p.add 3) = some (.slice a l c)
  k8 : k < 256
  i16 : i < 65536
  nil : a = none → l = 0
  le : l ≤ 140737488351232
  syms : ∀ a', a = some a' → ∀ j, j < l → ∃ (n : ByteArray) (k d z s : Nat), n.size ≤ maxLen ∧ k < 256 ∧ d < 256 ∧ z < 65536 ∧ s < 256 ∧
    W.cell? (a'.add (j * 5)) = some (.string n) ∧ W.cell? ((a'.add (j * 5)).add 1) = some (.int .u8 (k : Nat)) ∧ W.cell? ((a'.add (j * 5)).add 2) = some (.int .u8 (d : Nat)) ∧ W.cell? ((a'.add (j * 5)).add 3) = some (.int .u16 (z : Nat)) ∧ W.cell? ((a'.add (j * 5)).add 4) = some (.int .u8 (s : Nat))

theorem open_part {p : Addr} {fuel : Nat} {cs : List Value} {x : DataW H × List MemPlace} (hc : W.cells? 0 p 4 = some cs) (h : DataW.trod enc Yba.prog W 0 (fun _ => true) true fuel 26 cs = some x)
    (hsz : ∀ n ∈ x.1.weights Yba.prog 26, n ≤ reachBytes) : ∃ (nm : ByteArray) (k i : Nat) (a : Option Addr) (l c : Nat), PartAt W p nm k i a l c := by
  obtain ⟨y0, y1, y2, y3, n, hx, hl, f0, f1, f2, f3⟩ := struct4 Yba.underlying26 h
  rw [Yba.cells26] at hl
  obtain ⟨_, _, hcell⟩ := World.cells?_some hc
  match cs, hl with
  | [c0, c1, c2, c3], _ =>
    simp only [Yba.cells9, Yba.cells5, Yba.cellsU16, Yba.cells24, List.drop, List.take] at f0 f1 f2 f3
    obtain ⟨s, e0, _, _⟩ := DataW.trod_string Yba.underlying9 f0
    obtain ⟨o1, e1, _, w1⟩ := DataW.trod_int Yba.underlying5 f1
    obtain ⟨o2, e2, _, w2⟩ := DataW.trod_int Yba.underlying23 f2
    simp at e0 e1 e2
    subst e0 e1 e2
    obtain ⟨k, rfl, hk⟩ := nat_u8 w1
    obtain ⟨i, rfl, hi⟩ := nat_u16 w2
    have q0 : W.cell? p = some (.string s) := by simpa [Addr.add] using hcell 0 (by omega)
    have q1 : W.cell? (p.add 1) = some (.int .u8 (k : Nat)) := by simpa using hcell 1 (by omega)
    have q2 : W.cell? (p.add 2) = some (.int .u16 (i : Nat)) := by simpa using hcell 2 (by omega)
    have q3 : W.cell? (p.add 3) = some c3 := by simpa using hcell 3 (by omega)
    rcases open_slice Yba.underlying24 f3 with ⟨hcs, _⟩ | ⟨a, len, cap, m, n', D, Pl, hcs, _, hl, hm, hmm, hy, hel⟩
    · simp at hcs
      subst hcs
      exact ⟨s, k, i, none, 0, 0, q0, q1, q2, q3, hk, hi, fun _ => rfl, by omega, fun _ h => by cases h⟩
    · simp at hcs
      subst hcs
      simp only [if_true] at hmm
      subst hmm
      have hb : len ≤ 140737488351232 := by
        have h1 := hsz ((len + (m - len)) * Yba.prog.bytesOf 32) (by
          rw [hx, hy]
          simp [DataW.weights, DataW.weightsEach, Yba.underlying26, Yba.underlying24])
        have h2 := Nat.mul_le_mul_left (len + (m - len)) Yba.bytes32
        rw [reachB_eq] at h1
        omega
      refine ⟨s, k, i, some a, len, m, q0, q1, q2, q3, hk, hi, fun h => (by cases h), hb, fun a' ha j hj => ?_⟩
      cases ha
      obtain ⟨cs', h1, h2⟩ := hel j (by omega)
      rw [Yba.cells32] at h1
      obtain ⟨nn, k', d, z, sl, rfl, b0, b1, b2, b3, b4⟩ := open_sym h2
      obtain ⟨_, _, hc'⟩ := World.cells?_some h1
      exact ⟨nn, k', d, z, sl, b0, b1, b2, b3, b4, by simpa [Addr.add] using hc' 0 (by omega), by simpa using hc' 1 (by omega), by simpa using hc' 2 (by omega), by simpa using hc' 3 (by omega), by simpa using hc' 4 (by omega)⟩
end

set_option maxHeartbeats 1600000 in
set_option maxRecDepth 100000 in
theorem lawB_lifted (os : Os) (started : os.Started) (H : Type) (enc : TypeId × Value → H) :
    ReturnsInHanded {} Yba.checked os 3 .any (Rows.lawS194012BWholeSpec.pre6 enc Yba.prog Yba.f3 Rows.lawS194012BWholeRow.domain false) (Rows.lawS194012BWholeSpec.post enc Yba.prog Yba.f3 false true false false) := by
  refine returnsInHanded_of_change_sized (C := Yba.checked) Yba.ownB started (by kernel_rfl) Yba.func3
    (ChangeSpec.witness6 (enc := enc) (C := Yba.checked) false ⟨#[], #[.slice none 0 0], []⟩ 8 (by kernel_rfl) (by kernel_rfl) (by kernel_rfl) (by kernel_rfl)) ?_
  intro W base args ds gs before hval0 hW _ hsz0 _
  have hsz : (DataW.weightsEach Yba.prog (Yba.f3.params.toList ++ Rows.lawS194012BWholeSpec.plain.varTypes Yba.prog) (ds ++ gs)).all (· ≤ reachBytes) = true := hsz0
  clear hsz0
  have hval : ∀ (j : Nat) t v, Yba.f3.params[j]? = some t → args[j]? = some v → Value.okWide Yba.prog W .any base t v := hval0
  have hW' := hW
  obtain ⟨p, q, hA0, hV, rfl, hfz, _⟩ := hW
  have hA : DataW.TrodAll enc Yba.prog W 0 (fun _ => true) true Yba.f3.params.toList args.toList ds p := hA0
  rw [Yba.params3] at hA hval hsz
  obtain ⟨v0, d0, rfl, rfl, h0⟩ := trodAll_one hA
  obtain ⟨rfl, rfl⟩ := trodVars_none hV
  obtain ⟨a0, len, cap, rfl⟩ := okWide_slice Yba.underlying22 (hval 0 22 v0 rfl rfl)
  have h0k := h0
  obtain ⟨fuel, hf⟩ := h0
  clear hA0 hval0 hA
  simp only [List.append_nil] at hW' hfz hsz
  have hlt : ∀ x ∈ p, x.block < W.heap.size := fun x hx => hW'.lt x (by simp [hx])
  have tail : ∀ (e : Ending) (W' : World), e = .returned (.bool true) ∧ W.Since W.heap.size W' →
      ∃ v, e = .returned v ∧ Rows.lawS194012BWholeSpec.post enc Yba.checked.prog Yba.f3 false true false false W #[.slice a0 len cap] v W' := by
    rintro e W' ⟨rfl, hO⟩
    have ARG : DataW.Trod enc Yba.prog W' 0 (fun x => decide (x < W.heap.size)) true 22 (.slice a0 len cap) d0 p :=
      WideElems.Trod_stays Yba.laidOutB (by kernel_rfl) (of_decide_eq_true (by kernel_rfl)) h0k (fun x hx => hO.sameAt (hlt x hx)) (fun x hx => by simpa using hlt x hx)
    exact ⟨_, rfl, _, _, _, [], p, [], hW', trodAll_mk1 (shut_bool Yba.underlying4 true), trodAll_mk1 ARG, rfl, hO.frame _, fun h => by cases h⟩
  have none_ : ∀ (ra : Option Addr) (c : Nat), Calls Yba.prog 3 #[.slice ra 0 c] W fun e w' => e = .returned (.bool true) ∧ W.Since W.heap.size w' := fun ra c =>
    lawB_any (X := ⟨0, fun _ => default, fun _ => 0, fun _ => 0, fun _ => 0, fun _ _ => default, fun _ _ => 0, fun _ _ => 0, fun _ _ => 0, fun _ _ => 0⟩) (rb := 0) (ro := 0) (A := fun _ => none) (C := fun _ => 0) (AB := fun _ => 0) (AO := fun _ => 0)
      ⟨fun h => absurd h (Nat.lt_irrefl _), fun _ h => absurd h (Nat.not_lt_zero _), fun _ h => absurd h (Nat.not_lt_zero _), fun _ h => absurd h (Nat.not_lt_zero _), fun _ h => absurd h (Nat.not_lt_zero _), fun _ h => absurd h (Nat.not_lt_zero _), fun _ h => absurd h (Nat.not_lt_zero _), fun _ h => absurd h (Nat.not_lt_zero _), fun _ h => absurd h (Nat.not_lt_zero _), fun _ h => absurd h (Nat.not_lt_zero _), fun _ h => absurd h (Nat.not_lt_zero _)⟩
      (Nat.zero_le _) (fun _ h => absurd h (Nat.not_lt_zero _))
      (fun _ _ => ⟨Nat.zero_le _, Nat.zero_le _, fun _ h => absurd h (Nat.not_lt_zero _), fun _ h => absurd h (Nat.not_lt_zero _), fun _ h => absurd h (Nat.not_lt_zero _), fun _ h => absurd h (Nat.not_lt_zero _), fun _ h => absurd h (Nat.not_lt_zero _), fun _ h => absurd h (Nat.not_lt_zero _), fun _ h => absurd h (Nat.not_lt_zero _)⟩)
  rcases open_slice Yba.underlying22 hf with ⟨hcs, hx⟩ | ⟨a, len', cap', m, n, D, Pl, hcs, _, hl, hm, hmm, hx, hel⟩
  · simp [Value.cells] at hcs
    obtain ⟨rfl, rfl, rfl⟩ := hcs
    exact (none_ none 0).mono tail
  simp [Value.cells] at hcs
  obtain ⟨rfl, rfl, rfl⟩ := hcs
  simp only [Prod.mk.injEq] at hx
  obtain ⟨rfl, rfl⟩ := hx
  simp only [if_true] at hmm
  subst hmm
  have hout := sized_slice hsz (j := 0) (t := 22) (e := 26) rfl rfl Yba.underlying22
  simp only [List.length_map, List.length_range, reachB_eq] at hout
  have hGb : len ≤ 140737488351232 := by
    have h1 := Nat.mul_le_mul_left (len + (m - len)) Yba.bytes26
    omega
  have hwt : ∀ r, r < len → ∀ n ∈ (D r).weights Yba.prog 26, n ≤ reachBytes := fun r hr n hn => by
    refine of_decide_eq_true (List.all_eq_true.1 hsz _ (DataW.weights_mem_each (j := 0) rfl rfl _ ?_))
    simp only [DataW.weights, Yba.underlying22, List.mem_cons, List.mem_append]
    exact Or.inr (Or.inl (weightsAll_memB (List.mem_map.2 ⟨r, List.mem_range.2 hr, rfl⟩) _ hn))
  obtain ⟨F, hF⟩ := choose_lt (α := ByteArray × Nat × Nat × Option Addr × Nat × Nat) (n := len) (p := fun r o => PartAt W (a.add (r * 4)) o.1 o.2.1 o.2.2.1 o.2.2.2.1 o.2.2.2.2.1 o.2.2.2.2.2) (fun r hr => by
    obtain ⟨cs', h1, h2⟩ := hel r (by omega)
    rw [Yba.cells26] at h1
    obtain ⟨nm, k, i, a', l, c, hp⟩ := open_part h1 h2 (hwt r hr)
    exact ⟨(nm, k, i, a', l, c), hp⟩)
  rcases Nat.eq_zero_or_pos len with hl0 | hlp
  · subst hl0
    exact (none_ (some a) m).mono tail
  obtain ⟨gb, go, gs⟩ := a
  have hgs : gs = none := by simpa [Addr.add] using World.cell?_spot (hF 0 hlp).c0
  subst hgs
  -- the symbols
  obtain ⟨Y, hY⟩ := choose_lt2 (α := ByteArray × Nat × Nat × Nat × Nat) (G := len) (L := fun r => (F r).2.2.2.2.1) (p := fun r j o => ∃ bb oo, (F r).2.2.2.1 = some ⟨bb, oo, none⟩ ∧ o.1.size ≤ maxLen ∧ o.2.1 < 256 ∧ o.2.2.1 < 256 ∧ o.2.2.2.1 < 65536 ∧ o.2.2.2.2 < 256 ∧
      W.cell? ⟨bb, oo + j * 5, none⟩ = some (.string o.1) ∧ W.cell? ⟨bb, oo + j * 5 + 1, none⟩ = some (.int .u8 (o.2.1 : Nat)) ∧ W.cell? ⟨bb, oo + j * 5 + 2, none⟩ = some (.int .u8 (o.2.2.1 : Nat)) ∧ W.cell? ⟨bb, oo + j * 5 + 3, none⟩ = some (.int .u16 (o.2.2.2.1 : Nat)) ∧ W.cell? ⟨bb, oo + j * 5 + 4, none⟩ = some (.int .u8 (o.2.2.2.2 : Nat))) (fun r hr j hj => by
    cases hA : (F r).2.2.2.1 with
    | none => have := (hF r hr).nil hA; omega
    | some a' =>
      obtain ⟨bb, oo, sp⟩ := a'
      obtain ⟨_, _, _, _, _, _, _, _, _, _, z0, _⟩ := (hF r hr).syms _ hA 0 (by omega)
      have hsp : sp = none := by simpa [Addr.add] using World.cell?_spot z0
      subst hsp
      obtain ⟨nn, k, d, z, s, b0, b1, b2, b3, b4, y0, y1, y2, y3, y4⟩ := (hF r hr).syms _ hA j hj
      simp only [add_plain] at y0 y1 y2 y3 y4
      exact ⟨(nn, k, d, z, s), bb, oo, rfl, b0, b1, b2, b3, b4, y0, y1, y2, y3, y4⟩)
  refine (lawB_any (X := ⟨len, fun r => (F r).1, fun r => (F r).2.1, fun r => (F r).2.2.1, fun r => (F r).2.2.2.2.1, fun r j => (Y r j).1, fun r j => (Y r j).2.1, fun r j => (Y r j).2.2.1, fun r j => (Y r j).2.2.2.1, fun r j => (Y r j).2.2.2.2⟩) (ra := some ⟨gb, go, none⟩) (rb := gb) (ro := go)
    (A := fun r => (F r).2.2.2.1) (C := fun r => (F r).2.2.2.2.2) (AB := fun r => ((F r).2.2.2.1.getD default).block) (AO := fun r => ((F r).2.2.2.1.getD default).off) ?_ hGb (fun r hr => (hF r hr).le) ?_).mono tail
  · refine ⟨fun _ => rfl, fun r hr => ?_, fun r hr => ?_, fun r hr => ?_, fun r hr => ?_, fun r hr h => ?_, fun r hr j hj => ?_, fun r hr j hj => ?_, fun r hr j hj => ?_, fun r hr j hj => ?_, fun r hr j hj => ?_⟩
    · have := (hF r hr).c0; rwa [add_plain] at this
    · have := (hF r hr).c1; rwa [add_plain, add_plain] at this
    · have := (hF r hr).c2; rwa [add_plain, add_plain] at this
    · have := (hF r hr).c3; rwa [add_plain, add_plain] at this
    · obtain ⟨bb, oo, e, _⟩ := hY r hr 0 h
      show (F r).2.2.2.1 = _
      rw [e]; rfl
    all_goals
      obtain ⟨bb, oo, e, _, _, _, _, _, y0, y1, y2, y3, y4⟩ := hY r hr j hj
      show W.cell? ⟨((F r).2.2.2.1.getD default).block, _, none⟩ = _
      rw [e]
      assumption
  · intro hg hs
    exact ⟨hg, hs, fun r hr => (hF r hr).k8, fun r hr => (hF r hr).i16, fun r hr j hj => (by obtain ⟨_, _, _, _, h, _⟩ := hY r hr j hj; exact h), fun r hr j hj => (by obtain ⟨_, _, _, _, _, h, _⟩ := hY r hr j hj; exact h), fun r hr j hj => (by obtain ⟨_, _, _, _, _, _, h, _⟩ := hY r hr j hj; exact h), fun r hr j hj => (by obtain ⟨_, _, _, _, _, _, _, h, _⟩ := hY r hr j hj; exact h), fun r hr j hj => (by obtain ⟨_, _, _, h, _⟩ := hY r hr j hj; exact h)⟩

theorem lawB_holds : Rows.LawS194012BWholeSaid :=
  OpenClaim.holds_of_wide 3 Yba.f3 rfl rfl rfl rfl rfl rfl rfl ⟨rfl, rfl, rfl, rfl, rfl⟩ rfl rfl rfl rfl rfl (by kernel_rfl) Yba.func3 (by kernel_rfl)
    (of_decide_eq_true (by kernel_rfl)) (by unfold Func.isWrapper; rw [if_neg (of_decide_eq_false (by kernel_rfl))]; exact ⟨rfl, rfl⟩)
    (fun os started H enc _ => lawB_lifted os started H enc)
end Go.Proofs.Ybulkexmza
