/-
  FROM THE WALK TO THE ROW of sink.LawS194012APart.
-/
import Derived.Test.YbulkexmzaGreatWk
import Derived.Test.YbulkexmzaGreatRows
import Derived.ProofKit
import Derived.SizedLaws
import Derived.ChangeMaps5
import Derived.Deep.Slices
import Derived.Deep.Strs
import Derived.Deep.Modes
import Derived.Deep.Frames
namespace Go.Proofs.YbulkexmzaGreat
open Go.ChangeShapes Go.WideShapes Go.ChangeAt Go.RowKit Go.Deep
open Go.ChangeMaps (open_string)

theorem Ybaz.ownKnob : ownKnob Ybaz.prog.godebug = none := by kernel_rfl
theorem Ybaz.laidOut : laidOutB Ybaz.prog = true := by kernel_rfl
theorem Ybaz.cells4 : Ybaz.prog.cellsOf 4 = 1 := by kernel_rfl
theorem Ybaz.cells5 : Ybaz.prog.cellsOf 5 = 1 := by kernel_rfl
theorem Ybaz.cells23 : Ybaz.prog.cellsOf 23 = 1 := by kernel_rfl
theorem Ybaz.cells25 : Ybaz.prog.cellsOf 25 = 3 := by kernel_rfl
theorem Ybaz.cells49 : Ybaz.prog.cellsOf 49 = 4 := by kernel_rfl
theorem Ybaz.bytes25 : 1 ≤ Ybaz.prog.bytesOf 25 := of_decide_eq_true (by kernel_rfl)
theorem Ybaz.bytes49 : 1 ≤ Ybaz.prog.bytesOf 49 := of_decide_eq_true (by kernel_rfl)
theorem reachA_eq : reachBytes = 140737488351232 := rfl

theorem weightsAll_memA {H : Type} {P : Program} {e : TypeId} : ∀ {l : List (DataW H)} {d : DataW H}, d ∈ l → ∀ n ∈ d.weights P e, n ∈ DataW.weightsAll P e l
  | d' :: r, d, hd, n, hn => by
    simp only [DataW.weightsAll, List.mem_append]
    rcases List.mem_cons.1 hd with rfl | h
    · exact Or.inl hn
    · exact Or.inr (weightsAll_memA h n hn)
theorem nat_u8A {o : Int} (w0 : (Lit.int .u8 o).wf = true) : ∃ n : Nat, o = n ∧ n < 256 := by
  have b0 : 0 ≤ o ∧ o < 256 := by
    simp [Lit.wf, IntKind.min, IntKind.max, IntKind.signed, IntKind.bits] at w0
    omega
  exact ⟨o.toNat, by omega, by omega⟩
/-- Arguments read on as they read. -/
theorem all_belowA {H : Type} {enc : TypeId × Value → H} {P : Program} (hl : laidOutB P = true) {W W' : World} (hb : Below W.heap.size W W') :
    ∀ {ts : List TypeId} {vs : List Value} {ds : List (DataW H)} {ps : List MemPlace}, (∀ t ∈ ts, P.readableRec t = true ∧ t < P.types.size) →
      DataW.TrodAll enc P W 0 (fun _ => true) true ts vs ds ps → (∀ x ∈ ps, x.block < W.heap.size) → DataW.TrodAll enc P W' 0 (fun b => decide (b < W.heap.size)) true ts vs ds ps
  | [], [], [], _, _, h, _ => h
  | t :: ts, v :: vs, d :: ds, ps, hr, ⟨p, q, h, hs, e⟩, hlt => by
    subst e
    obtain ⟨hr1, hr2⟩ := hr t (List.mem_cons_self)
    exact ⟨p, q, Below.trod hl hr1 hr2 h hb (fun x hx => hlt x (by simp [hx])), all_belowA hl hb (fun m hm => hr m (List.mem_cons_of_mem _ hm)) hs (fun x hx => hlt x (by simp [hx])), rfl⟩
section
variable {H : Type} {enc : TypeId × Value → H} {W : World}
theorem struct4A {P : Program} {t : TypeId} {f0 f1 f2 f3 : Field} {fuel : Nat} {cs : List Value} {x : DataW H × List MemPlace} (ht : P.underlying t = some (.struct #[f0, f1, f2, f3])) (h : DataW.trod enc P W 0 (fun _ => true) true fuel t cs = some x) :
    ∃ y0 y1 y2 y3 n, cs.length = P.cellsOf t ∧ DataW.trod enc P W 0 (fun _ => true) true n f0.type ((cs.drop f0.offset).take (P.cellsOf f0.type)) = some y0 ∧ DataW.trod enc P W 0 (fun _ => true) true n f1.type ((cs.drop f1.offset).take (P.cellsOf f1.type)) = some y1 ∧
      DataW.trod enc P W 0 (fun _ => true) true n f2.type ((cs.drop f2.offset).take (P.cellsOf f2.type)) = some y2 ∧ DataW.trod enc P W 0 (fun _ => true) true n f3.type ((cs.drop f3.offset).take (P.cellsOf f3.type)) = some y3 := by
  obtain ⟨xs, n, _, _, hl, hlen, hf⟩ := DataW.trod_struct ht h
  match xs, hlen with
  | [y0, y1, y2, y3], _ => exact ⟨y0, y1, y2, y3, n, hl, by simpa using hf 0 f0 rfl, by simpa using hf 1 f1 rfl, by simpa using hf 2 f2 rfl, by simpa using hf 3 f3 rfl⟩
theorem struct3A {P : Program} {t : TypeId} {f0 f1 f2 : Field} {fuel : Nat} {cs : List Value} {x : DataW H × List MemPlace} (ht : P.underlying t = some (.struct #[f0, f1, f2])) (h : DataW.trod enc P W 0 (fun _ => true) true fuel t cs = some x) :
    ∃ y0 y1 y2 n, x = (.agg [y0.1, y1.1, y2.1], y0.2 ++ (y1.2 ++ y2.2)) ∧ cs.length = P.cellsOf t ∧ DataW.trod enc P W 0 (fun _ => true) true n f0.type ((cs.drop f0.offset).take (P.cellsOf f0.type)) = some y0 ∧ DataW.trod enc P W 0 (fun _ => true) true n f1.type ((cs.drop f1.offset).take (P.cellsOf f1.type)) = some y1 ∧
      DataW.trod enc P W 0 (fun _ => true) true n f2.type ((cs.drop f2.offset).take (P.cellsOf f2.type)) = some y2 := by
  obtain ⟨xs, n, _, hx, hl, hlen, hf⟩ := DataW.trod_struct ht h
  match xs, hlen with
  | [y0, y1, y2], _ => exact ⟨y0, y1, y2, n, by rw [hx]; simp, hl, by simpa using hf 0 f0 rfl, by simpa using hf 1 f1 rfl, by simpa using hf 2 f2 rfl⟩
set_option maxRecDepth 100000 in
/-- One block: its four cells. -/
theorem open_blk {fuel : Nat} {cs : List Value} {x : DataW H × List MemPlace} (h : DataW.trod enc Ybaz.prog W 0 (fun _ => true) true fuel 49 cs = some x) :
    ∃ (k s n p : Nat), cs = [.int .u8 (k : Nat), .int .u8 (s : Nat), .int .u8 (n : Nat), .int .u8 (p : Nat)] ∧ k < 256 ∧ s < 256 ∧ n < 256 ∧ p < 256 := by
  obtain ⟨y0, y1, y2, y3, n, hl, f0, f1, f2, f3⟩ := struct4A Ybaz.underlying49 h
  rw [Ybaz.cells49] at hl
  match cs, hl with
  | [c0, c1, c2, c3], _ =>
    simp only [Ybaz.cells5, List.drop, List.take] at f0 f1 f2 f3
    obtain ⟨o0, e0, _, w0⟩ := DataW.trod_int Ybaz.underlying5 f0
    obtain ⟨o1, e1, _, w1⟩ := DataW.trod_int Ybaz.underlying5 f1
    obtain ⟨o2, e2, _, w2⟩ := DataW.trod_int Ybaz.underlying5 f2
    obtain ⟨o3, e3, _, w3⟩ := DataW.trod_int Ybaz.underlying5 f3
    simp at e0 e1 e2 e3
    subst e0 e1 e2 e3
    obtain ⟨k, rfl, hk⟩ := nat_u8A w0
    obtain ⟨s, rfl, hs⟩ := nat_u8A w1
    obtain ⟨m, rfl, hm⟩ := nat_u8A w2
    obtain ⟨p, rfl, hp⟩ := nat_u8A w3
    exact ⟨k, s, m, p, rfl, hk, hs, hm, hp⟩
theorem choose_lt2A {α : Type} [Inhabited α] {G : Nat} {L : Nat → Nat} {p : Nat → Nat → α → Prop} (h : ∀ r, r < G → ∀ j, j < L r → ∃ x, p r j x) : ∃ f : Nat → Nat → α, ∀ r, r < G → ∀ j, j < L r → p r j (f r j) := by
  classical
  refine ⟨fun r j => if hh : r < G ∧ j < L r then Classical.choose (h r hh.1 j hh.2) else default, fun r hr j hj => ?_⟩
  simp only [dif_pos (show r < G ∧ j < L r from ⟨hr, hj⟩)]
  exact Classical.choose_spec (h r hr j hj)
/-- What is known of one function. -/
structure FnAt (W : World) (p : Addr) (k : Nat) (b : Bool) (a : Option Addr) (l c : Nat) : Prop where
  c0 : W.cell? p = some (.int .u8 (k : Nat))
  c1 : W.cell? (p.add 1) = some (.bool b)
  c2 : W.cell? (p.add 2) = some (.slice a l c)
  k8 : k < 256
  nil : a = none → l = 0
  le : l ≤ 140737488351232
  blks : ∀ a', a = some a' → ∀ j, j < l → ∃ (k s n q : Nat), k < 256 ∧ s < 256 ∧ n < 256 ∧ q < 256 ∧
    W.cell? (a'.add (j * 4)) = some (.int .u8 (k : Nat)) ∧ W.cell? ((a'.add (j * 4)).add 1) = some (.int .u8 (s : Nat)) ∧ W.cell? ((a'.add (j * 4)).add 2) = some (.int .u8 (n : Nat)) ∧ W.cell? ((a'.add (j * 4)).add 3) = some (.int .u8 (q : Nat))
set_option maxRecDepth 100000 in
theorem open_fn {p : Addr} {fuel : Nat} {cs : List Value} {x : DataW H × List MemPlace} (hc : W.cells? 0 p 3 = some cs) (h : DataW.trod enc Ybaz.prog W 0 (fun _ => true) true fuel 25 cs = some x)
    (hsz : ∀ n ∈ x.1.weights Ybaz.prog 25, n ≤ reachBytes) : ∃ (k : Nat) (b : Bool) (a : Option Addr) (l c : Nat), FnAt W p k b a l c := by
  obtain ⟨y0, y1, y2, n, hx, hl, f0, f1, f2⟩ := struct3A Ybaz.underlying25 h
  rw [Ybaz.cells25] at hl
  obtain ⟨_, _, hcell⟩ := World.cells?_some hc
  match cs, hl with
  | [c0, c1, c2], _ =>
    simp only [Ybaz.cells4, Ybaz.cells5, Ybaz.cells23, List.drop, List.take] at f0 f1 f2
    obtain ⟨o0, e0, _, w0⟩ := DataW.trod_int Ybaz.underlying5 f0
    obtain ⟨b, e1, _⟩ := DataW.trod_bool Ybaz.underlying4 f1
    simp at e0 e1
    subst e0 e1
    obtain ⟨k, rfl, hk⟩ := nat_u8A w0
    have q0 : W.cell? p = some (.int .u8 (k : Nat)) := by simpa [Addr.add] using hcell 0 (by omega)
    have q1 : W.cell? (p.add 1) = some (.bool b) := by simpa using hcell 1 (by omega)
    have q2 : W.cell? (p.add 2) = some c2 := by simpa using hcell 2 (by omega)
    rcases open_slice Ybaz.underlying23 f2 with ⟨hcs, _⟩ | ⟨a, len, cap, m, n', D, Pl, hcs, _, hl, hm, hmm, hy, hel⟩
    · simp at hcs
      subst hcs
      exact ⟨k, b, none, 0, 0, q0, q1, q2, hk, fun _ => rfl, by omega, fun _ h => by cases h⟩
    · simp at hcs
      subst hcs
      simp only [if_true] at hmm
      subst hmm
      have hb : len ≤ 140737488351232 := by
        have h1 := hsz ((len + (m - len)) * Ybaz.prog.bytesOf 49) (by
          rw [hx, hy]
          simp [DataW.weights, DataW.weightsEach, Ybaz.underlying25, Ybaz.underlying23])
        have h2 := Nat.mul_le_mul_left (len + (m - len)) Ybaz.bytes49
        rw [reachA_eq] at h1
        omega
      refine ⟨k, b, some a, len, m, q0, q1, q2, hk, fun h => (by cases h), hb, fun a' ha j hj => ?_⟩
      cases ha
      obtain ⟨cs', h1, h2⟩ := hel j (by omega)
      rw [Ybaz.cells49] at h1
      obtain ⟨k', s, nn, p', rfl, b0, b1, b2, b3⟩ := open_blk h2
      obtain ⟨_, _, hc'⟩ := World.cells?_some h1
      exact ⟨k', s, nn, p', b0, b1, b2, b3, by simpa [Addr.add] using hc' 0 (by omega), by simpa using hc' 1 (by omega), by simpa using hc' 2 (by omega), by simpa using hc' 3 (by omega)⟩
end
set_option maxHeartbeats 1600000 in
set_option maxRecDepth 100000 in
theorem law_lifted (os : Os) (started : os.Started) (H : Type) (enc : TypeId × Value → H) :
    ReturnsInHanded {} Ybaz.checked os 3 .any (Rows.lawS194012APartSpec.pre6 enc Ybaz.prog Ybaz.f3 Rows.lawS194012APartRow.domain false) (Rows.lawS194012APartSpec.post enc Ybaz.prog Ybaz.f3 false true false false) := by
  refine returnsInHanded_of_change_sized (C := Ybaz.checked) Ybaz.ownKnob started (by kernel_rfl) Ybaz.func3
    (ChangeSpec.witness6 (enc := enc) (C := Ybaz.checked) false ⟨#[], #[.slice none 0 0, .int .u8 0, .string ⟨#[]⟩], []⟩ 8 (by kernel_rfl) (by kernel_rfl) (by kernel_rfl) (by kernel_rfl)) ?_
  intro W base args ds gs before hval0 hW _ hsz0 _
  have hsz : (DataW.weightsEach Ybaz.prog (Ybaz.f3.params.toList ++ Rows.lawS194012APartSpec.plain.varTypes Ybaz.prog) (ds ++ gs)).all (· ≤ reachBytes) = true := hsz0
  clear hsz0
  have hval : ∀ (j : Nat) t v, Ybaz.f3.params[j]? = some t → args[j]? = some v → Value.okWide Ybaz.prog W .any base t v := hval0
  have hW' := hW
  obtain ⟨p, q, hA0, hV, rfl, hfz, _⟩ := hW
  have hA : DataW.TrodAll enc Ybaz.prog W 0 (fun _ => true) true Ybaz.f3.params.toList args.toList ds p := hA0
  obtain ⟨rfl, rfl⟩ := trodVars_none hV
  simp only [List.append_nil] at hW' hfz hsz
  have hlt : ∀ x ∈ p, x.block < W.heap.size := fun x hx => hW'.lt x (by simp [hx])
  have hAk := hA
  rw [Ybaz.params3] at hAk hval hsz
  obtain ⟨v0, vs0, d0, ds0, p0, q0, hargs, rfl, rfl, t0, r0⟩ := trodAll_cons hAk
  obtain ⟨v1, vs1, d1, ds1, p1, q1, rfl, rfl, rfl, t1, r1⟩ := trodAll_cons r0
  obtain ⟨v2, vs2, d2, ds2, p2, q2, rfl, rfl, rfl, t2, r2⟩ := trodAll_cons r1
  obtain ⟨rfl, rfl, rfl⟩ := trodAll_nil r2
  obtain rfl : args = #[v0, v1, v2] := by apply Array.ext'; simpa using hargs
  have tail : ∀ (e : Ending) (W' : World), e = .returned (.bool true) ∧ W.Since W.heap.size W' →
      ∃ v, e = .returned v ∧ Rows.lawS194012APartSpec.post enc Ybaz.checked.prog Ybaz.f3 false true false false W #[v0, v1, v2] v W' := by
    rintro e W' ⟨rfl, hO⟩
    have hB : Below W.heap.size W W' := ⟨hO.os, hO.tape, hO.output, hO.size, hO.block⟩
    refine ⟨_, rfl, _, _, _, [], p0 ++ (p1 ++ (p2 ++ [])), [], hW', trodAll_mk1 (shut_bool Ybaz.underlying4 true), ?_, rfl, hB.frame _, fun h => by cases h⟩
    exact all_belowA Ybaz.laidOut hB (by
        intro t ht
        have hm : t = 22 ∨ t = 5 ∨ t = 9 := by simpa [Ybaz.params3] using ht
        rcases hm with rfl | rfl | rfl <;> exact ⟨by kernel_rfl, of_decide_eq_true (by kernel_rfl)⟩) hA hlt
  clear hA0 hval0 hA hAk r0 r1 r2 hfz hlt hargs hW'
  obtain ⟨wn, rfl, rfl, rfl, wwn⟩ := open_int Ybaz.underlying5 (hval 1 5 v1 rfl rfl) t1
  obtain ⟨al, rfl, rfl, rfl, _⟩ := open_string Ybaz.underlying9 (hval 2 9 v2 rfl rfl) t2
  obtain ⟨pg, rfl, hpg⟩ := nat_u8A wwn
  obtain ⟨a0, len, cap, rfl⟩ := okWide_slice Ybaz.underlying22 (hval 0 22 v0 rfl rfl)
  obtain ⟨fuel, hf⟩ := t0
  have none_ : ∀ (ra : Option Addr) (c : Nat), Calls Ybaz.prog 3 #[.slice ra 0 c, .int .u8 (pg : Nat), .string al] W fun e w' => e = .returned (.bool true) ∧ W.Since W.heap.size w' := fun ra c =>
    law_any (X := ⟨0, fun _ => 0, fun _ => false, fun _ => 0, fun _ _ => 1, fun _ _ => 0, fun _ _ => 0, fun _ _ => 0⟩) (rb := 0) (ro := 0) (ba := fun _ => none) (bc := fun _ => 0) (bb := fun _ => 0) (bo := fun _ => 0)
      ⟨fun _ h => absurd h (Nat.not_lt_zero _), fun _ => (by show (0 : Nat) < 256; omega), fun _ _ => (by show (1 : Nat) < 256; omega), fun _ _ => (by show (0 : Nat) < 256; omega), fun _ _ => (by show (0 : Nat) < 256; omega), fun _ _ => (by show (0 : Nat) < 256; omega), fun _ _ _ => ⟨rfl, rfl, rfl, rfl⟩⟩
      ⟨fun h => absurd h (Nat.lt_irrefl _), fun _ h => absurd h (Nat.not_lt_zero _), fun _ h => absurd h (Nat.not_lt_zero _), fun _ h => absurd h (Nat.not_lt_zero _), fun _ h => absurd h (Nat.not_lt_zero _), fun _ _ h => absurd h (Nat.not_lt_zero _), fun _ _ h => absurd h (Nat.not_lt_zero _), fun _ _ h => absurd h (Nat.not_lt_zero _), fun _ _ h => absurd h (Nat.not_lt_zero _)⟩ hpg
  rcases open_slice Ybaz.underlying22 hf with ⟨hcs, hx⟩ | ⟨a, len', cap', m, n, D, Pl, hcs, _, hl, hm, hmm, hx, hel⟩
  · simp [Value.cells] at hcs
    obtain ⟨rfl, rfl, rfl⟩ := hcs
    exact (none_ none 0).mono tail
  simp [Value.cells] at hcs
  obtain ⟨rfl, rfl, rfl⟩ := hcs
  simp only [Prod.mk.injEq] at hx
  obtain ⟨rfl, rfl⟩ := hx
  simp only [if_true] at hmm
  subst hmm
  have hwt : ∀ r, r < len → ∀ n ∈ (D r).weights Ybaz.prog 25, n ≤ reachBytes := fun r hr n hn => by
    refine of_decide_eq_true (List.all_eq_true.1 hsz _ (DataW.weights_mem_each (j := 0) rfl rfl _ ?_))
    simp only [DataW.weights, Ybaz.underlying22, List.mem_cons, List.mem_append]
    exact Or.inr (Or.inl (weightsAll_memA (List.mem_map.2 ⟨r, List.mem_range.2 hr, rfl⟩) _ hn))
  obtain ⟨F, hF⟩ := choose_lt (α := Nat × Bool × Option Addr × Nat × Nat) (n := len) (p := fun r o => FnAt W (a.add (r * 3)) o.1 o.2.1 o.2.2.1 o.2.2.2.1 o.2.2.2.2) (fun r hr => by
    obtain ⟨cs', h1, h2⟩ := hel r (by omega)
    rw [Ybaz.cells25] at h1
    obtain ⟨k, b, a', l, c, hp⟩ := open_fn h1 h2 (hwt r hr)
    exact ⟨(k, b, a', l, c), hp⟩)
  rcases Nat.eq_zero_or_pos len with hl0 | hlp
  · subst hl0
    exact (none_ (some a) m).mono tail
  obtain ⟨gb, go, gs⟩ := a
  have hgs : gs = none := by simpa [Addr.add] using World.cell?_spot (hF 0 hlp).c0
  subst hgs
  obtain ⟨Y, hY⟩ := choose_lt2A (α := Nat × Nat × Nat × Nat) (G := len) (L := fun r => (F r).2.2.2.1) (p := fun r j o => ∃ bb oo, (F r).2.2.1 = some ⟨bb, oo, none⟩ ∧ o.1 < 256 ∧ o.2.1 < 256 ∧ o.2.2.1 < 256 ∧ o.2.2.2 < 256 ∧
      W.cell? ⟨bb, oo + j * 4, none⟩ = some (.int .u8 (o.1 : Nat)) ∧ W.cell? ⟨bb, oo + j * 4 + 1, none⟩ = some (.int .u8 (o.2.1 : Nat)) ∧ W.cell? ⟨bb, oo + j * 4 + 2, none⟩ = some (.int .u8 (o.2.2.1 : Nat)) ∧ W.cell? ⟨bb, oo + j * 4 + 3, none⟩ = some (.int .u8 (o.2.2.2 : Nat))) (fun r hr j hj => by
    cases hA : (F r).2.2.1 with
    | none => have := (hF r hr).nil hA; omega
    | some a' =>
      obtain ⟨bb, oo, sp⟩ := a'
      obtain ⟨_, _, _, _, _, _, _, _, z0, _⟩ := (hF r hr).blks _ hA 0 (by omega)
      have hsp : sp = none := by simpa [Addr.add] using World.cell?_spot z0
      subst hsp
      obtain ⟨k, s, nn, q, b0, b1, b2, b3, y0, y1, y2, y3⟩ := (hF r hr).blks _ hA j hj
      simp only [add_plain] at y0 y1 y2 y3
      exact ⟨(k, s, nn, q), bb, oo, rfl, b0, b1, b2, b3, y0, y1, y2, y3⟩)
  have hX8 : ∀ (g : Nat × Nat × Nat × Nat → Nat) (z : Nat), z < 256 → (∀ r j, r < len → j < (F r).2.2.2.1 → g (Y r j) < 256) → ∀ r j, (if r < len ∧ j < (F r).2.2.2.1 then g (Y r j) else z) < 256 := fun g z hz h r j => by
    split
    · rename_i hh; exact h r j hh.1 hh.2
    · exact hz
  refine (law_any (X := ⟨len, fun r => if r < len then (F r).1 else 0, fun r => (F r).2.1, fun r => (F r).2.2.2.1, fun r j => if r < len ∧ j < (F r).2.2.2.1 then (Y r j).1 else 1, fun r j => if r < len ∧ j < (F r).2.2.2.1 then (Y r j).2.1 else 0, fun r j => if r < len ∧ j < (F r).2.2.2.1 then (Y r j).2.2.1 else 0, fun r j => if r < len ∧ j < (F r).2.2.2.1 then (Y r j).2.2.2 else 0⟩) (ra := some ⟨gb, go, none⟩) (rb := gb) (ro := go) (rc := m)
    (ba := fun r => (F r).2.2.1) (bc := fun r => (F r).2.2.2.2) (bb := fun r => ((F r).2.2.1.getD default).block) (bo := fun r => ((F r).2.2.1.getD default).off) ?_ ?_ hpg).mono tail
  · refine ⟨fun r hr => (hF r hr).le, fun r => ?_, hX8 (fun o => o.1) 1 (by omega) (fun r j hr hj => ?_), hX8 (fun o => o.2.1) 0 (by omega) (fun r j hr hj => ?_), hX8 (fun o => o.2.2.1) 0 (by omega) (fun r j hr hj => ?_), hX8 (fun o => o.2.2.2) 0 (by omega) (fun r j hr hj => ?_), fun r j hj => ?_⟩
    · show (if r < len then (F r).1 else 0) < 256
      split
      · rename_i hr; exact (hF r hr).k8
      · omega
    · obtain ⟨_, _, _, h, _⟩ := hY r hr j hj; exact h
    · obtain ⟨_, _, _, _, h, _⟩ := hY r hr j hj; exact h
    · obtain ⟨_, _, _, _, _, h, _⟩ := hY r hr j hj; exact h
    · obtain ⟨_, _, _, _, _, _, h, _⟩ := hY r hr j hj; exact h
    · have hn : ¬ (r < len ∧ j < (F r).2.2.2.1) := fun h => by
        have hj' : (F r).2.2.2.1 ≤ j := hj
        omega
      exact ⟨if_neg hn, if_neg hn, if_neg hn, if_neg hn⟩
  · refine ⟨fun _ => rfl, fun r hr => ?_, fun r hr => ?_, fun r hr => ?_, fun r hr h => ?_, fun r j hr hj => ?_, fun r j hr hj => ?_, fun r j hr hj => ?_, fun r j hr hj => ?_⟩
    · have hr' : r < len := hr
      show W.cell? _ = some (.int .u8 ((if r < len then (F r).1 else 0 : Nat) : Int))
      rw [if_pos hr']
      have := (hF r hr).c0; rwa [add_plain] at this
    · have := (hF r hr).c1; rwa [add_plain, add_plain] at this
    · have := (hF r hr).c2; rwa [add_plain, add_plain] at this
    · obtain ⟨bb, oo, e, _⟩ := hY r hr 0 h
      show (F r).2.2.1 = _
      rw [e]; rfl
    · obtain ⟨bb, oo, e, _, _, _, _, y0, y1, y2, y3⟩ := hY r hr j hj
      show W.cell? ⟨((F r).2.2.1.getD default).block, _, none⟩ = some (.int .u8 ((if r < len ∧ j < (F r).2.2.2.1 then (Y r j).1 else 1 : Nat) : Int))
      rw [if_pos ⟨hr, hj⟩, e]
      exact y0
    · obtain ⟨bb, oo, e, _, _, _, _, y0, y1, y2, y3⟩ := hY r hr j hj
      show W.cell? ⟨((F r).2.2.1.getD default).block, _, none⟩ = some (.int .u8 ((if r < len ∧ j < (F r).2.2.2.1 then (Y r j).2.1 else 0 : Nat) : Int))
      rw [if_pos ⟨hr, hj⟩, e]
      exact y1
    · obtain ⟨bb, oo, e, _, _, _, _, y0, y1, y2, y3⟩ := hY r hr j hj
      show W.cell? ⟨((F r).2.2.1.getD default).block, _, none⟩ = some (.int .u8 ((if r < len ∧ j < (F r).2.2.2.1 then (Y r j).2.2.1 else 0 : Nat) : Int))
      rw [if_pos ⟨hr, hj⟩, e]
      exact y2
    · obtain ⟨bb, oo, e, _, _, _, _, y0, y1, y2, y3⟩ := hY r hr j hj
      show W.cell? ⟨((F r).2.2.1.getD default).block, _, none⟩ = some (.int .u8 ((if r < len ∧ j < (F r).2.2.2.1 then (Y r j).2.2.2 else 0 : Nat) : Int))
      rw [if_pos ⟨hr, hj⟩, e]
      exact y3

theorem law_holds : Rows.LawS194012APartSaid :=
  OpenClaim.holds_of_wide 3 Ybaz.f3 rfl rfl rfl rfl rfl rfl rfl ⟨rfl, rfl, rfl, rfl, rfl⟩ rfl rfl rfl rfl rfl (by kernel_rfl) Ybaz.func3 (by kernel_rfl)
    (of_decide_eq_true (by kernel_rfl)) (by unfold Func.isWrapper; rw [if_neg (of_decide_eq_false (by kernel_rfl))]; exact ⟨rfl, rfl⟩)
    (fun os started H enc _ => law_lifted os started H enc)
end Go.Proofs.YbulkexmzaGreat
