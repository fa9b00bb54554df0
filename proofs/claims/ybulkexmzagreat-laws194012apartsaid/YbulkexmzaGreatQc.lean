/-
  The law: the snapshot of a block (regions 63 to 65).
-/
import Derived.Test.YbulkexmzaGreatQb
namespace Go.Proofs.YbulkexmzaGreat
open Go.RowKit
attribute [local go_sem] fup_at
/-- An append to nil. -/
theorem Fr.appc {N : Nat} {F : (Nat → Value) → Act} (hF : Fr N F) {w0 w : World} {E : Lab → Nat} {B : Lab → Option Lb} {t e : TypeId} {bytes : Nat} {ops : Array Oper} {rest : List Oper} {o : Oper} {f : Nat → Value} {Q : Exit → Act → World → Prop} (k : Lab) (ht : Ety t e 1 bytes) (hgd : o.guard = none) (x d : Nat) (hd : o.dst = some d) (ho : o.op = .call { callee := .builtin .append, args := #[.const (.slice none 0 0), .tmp x], argTypes := #[t, t] }) (hx : x < N)
    (hS : Sg w0 w E B) (xa : Option Addr) (m c : Nat) (ns : List Value) (ex : f x = .slice xa m c) (hnl : ns.length = m) (hnew : 0 < m → ∃ ad, xa = some ad ∧ ∀ j u, ns[j]? = some u → w.cell? (ad.add j) = some u) (h1 : ∀ u ∈ ns, u.oneCell' = true) (hlen : m ≤ 100000000000)
    (q' : Nat → Value → Prop) (hz : ∀ j u, ns[j]? = some u → q' j u)
    (hK : ∀ v' w', Apg w0 E B k e m q' v' w' → wpList Ybaz.prog ops Q rest (F (fup f d v')) w') : wpList Ybaz.prog ops Q (o :: rest) (F f) w := by
  have hsl : Slg E B k e 0 0 (fun _ _ => True) (.slice none 0 0) := .inl ⟨rfl, rfl⟩
  refine hsl.wpl ht hgd (.const (.slice none 0 0)) (.tmp x) ho hS rfl xa m c ns ((hF.eval f hx).trans ex) hnl hnew h1 (by omega) q' (fun i u h => absurd h (Nat.not_lt_zero _)) (fun j u hj => by rw [Nat.zero_add]; exact hz j u hj) (fun v' w' ha => ?_)
  have := hF.up f d v'
  rw [hd, show (F f).put (some d) v' = F (fup f d v') from this]
  rw [Nat.zero_add] at ha
  exact hK v' w' ha
def set6 (D : Nat → Value) (o : Nat) (v0 v1 v2 v3 v4 v5 : Value) : Nat → Value := upd (upd (upd (upd (upd (upd D o v0) (o + 1) v1) (o + 2) v2) (o + 3) v3) (o + 4) v4) (o + 5) v5
theorem Sg.set6 {w0 w : World} {E : Lab → Nat} {B : Lab → Option Lb} (h : Sg w0 w E B) {k : Lab} {t : TypeId} {m : Nat} {D : Nat → Value} (hk : B k = some (vals t m D)) (o : Nat) (v0 v1 v2 v3 v4 v5 : Value) :
    Sg w0 ((((((w.setCell ⟨E k, o, none⟩ v0).setCell ⟨E k, o + 1, none⟩ v1).setCell ⟨E k, o + 2, none⟩ v2).setCell ⟨E k, o + 3, none⟩ v3).setCell ⟨E k, o + 4, none⟩ v4).setCell ⟨E k, o + 5, none⟩ v5) E (lup B k (some (vals t m (YbulkexmzaGreat.set6 D o v0 v1 v2 v3 v4 v5)))) := by
  have s0 := h.setVal hk o v0
  have s1 := s0.setVal (lup_same _ _ _) (o + 1) v1
  have s2 := s1.setVal (lup_same _ _ _) (o + 2) v2
  have s3 := s2.setVal (lup_same _ _ _) (o + 3) v3
  have s4 := s3.setVal (lup_same _ _ _) (o + 4) v4
  have s5 := s4.setVal (lup_same _ _ _) (o + 5) v5
  rw [lup_lup, lup_lup, lup_lup, lup_lup, lup_lup] at s5
  exact s5
set_option maxHeartbeats 4000000 in
set_option maxRecDepth 100000 in
theorem b63 {F : (Nat → Value) → Act} (hF : Fr 559 F) {w0 w : World} {E : Lab → Nat} {B : Lab → Option Lb} {i j n k l : Nat} {p4 : Option Addr} {Db D f : Nat → Value} {z2 : Nat} {z5 z0 : Int} {q4 : Nat → Value → Prop} {Q : Exit → Act → World → Prop} (hj : j < n) (_hn : n ≤ 100000) (hk : k ≤ 3)
    (hS : Sg w0 w E B) (hb : B (10, i, j, 0) = some (vals 45 6 Db)) (hb0 : Db 0 = .int .i64 z0) (hb1 : Db 1 = .slice (some ⟨E (11, i, j, 0), 0, none⟩) k k) (hb2 : Db 2 = .int .u8 (z2 : Nat)) (hb3 : Db 3 = .pointer none) (hb4 : Db 4 = .slice p4 l l) (hb5 : Db 5 = .int .i64 z5)
    (hl : l ≤ 1) (h12 : 0 < l → p4 = some ⟨E (12, i, j, 0), 0, none⟩ ∧ ∃ v12, B (12, i, j, 0) = some (vals 40 1 (fun _ => v12)) ∧ v12.oneCell' = true ∧ q4 0 v12)
    (h11 : B (11, i, j, 0) = some (gl 50 1 k k (fun t u => u = .pointer (some ⟨E (20, i, j, t), 0, none⟩)))) (h3 : B (3, i, 0, 0) = some (vals 45 (n * 6) D))
    (h24 : f 24 = .slice (some ⟨E (3, i, 0, 0), 0, none⟩) n n) (h25 : f 25 = .int .i64 (j : Nat)) (h27 : f 27 = .pointer (some ⟨E (10, i, j, 0), 0, none⟩))
    (hQ : ∀ y w' E' B' D', (∀ s, s < 216 → y s = f s) → Sg w0 w' E' B' → (∀ l : Lab, l ≠ (13, i, j, 0) → l ≠ (14, i, j, 0) → E' l = E l) → (∀ l : Lab, l ≠ (13, i, j, 0) → l ≠ (14, i, j, 0) → l ≠ (3, i, 0, 0) → B' l = B l) → B' (3, i, 0, 0) = some (vals 45 (n * 6) D') → (∀ s, s < j * 6 ∨ j * 6 + 6 ≤ s → D' s = D s) → D' (j * 6 + 2) = .int .u8 (z2 : Nat) → D' (j * 6 + 5) = .int .i64 z5 → D' (j * 6) = .int .i64 z0 → D' (j * 6 + 3) = .pointer none → (∃ cap, Slg E' B' (13, i, j, 0) 50 k cap (fun t u => u = .pointer (some ⟨E (20, i, j, t), 0, none⟩)) (D' (j * 6 + 1))) → (∃ cap, Slg E' B' (14, i, j, 0) 40 l cap q4 (D' (j * 6 + 4))) → Q .normal (F y) w') :
    (((Ybaz.f3.body.bind (codeAt 63)).getD .skip)).wp Ybaz.prog Q (F f) w := by
  conv => arg 2; whnf
  have hget := hF.get
  have hmk := hF.up
  have HQ : Hid (∀ y w' E' B' D', (∀ s, s < 216 → y s = f s) → Sg w0 w' E' B' → (∀ l : Lab, l ≠ (13, i, j, 0) → l ≠ (14, i, j, 0) → E' l = E l) → (∀ l : Lab, l ≠ (13, i, j, 0) → l ≠ (14, i, j, 0) → l ≠ (3, i, 0, 0) → B' l = B l) → B' (3, i, 0, 0) = some (vals 45 (n * 6) D') → (∀ s, s < j * 6 ∨ j * 6 + 6 ≤ s → D' s = D s) → D' (j * 6 + 2) = .int .u8 (z2 : Nat) → D' (j * 6 + 5) = .int .i64 z5 → D' (j * 6) = .int .i64 z0 → D' (j * 6 + 3) = .pointer none → (∃ cap, Slg E' B' (13, i, j, 0) 50 k cap (fun t u => u = .pointer (some ⟨E (20, i, j, t), 0, none⟩)) (D' (j * 6 + 1))) → (∃ cap, Slg E' B' (14, i, j, 0) 40 l cap q4 (D' (j * 6 + 4))) → Q .normal (F y) w') := hQ
  have HS : Hid (Sg w0 w E B) := hS
  have H12 : Hid (0 < l → p4 = some ⟨E (12, i, j, 0), 0, none⟩ ∧ ∃ v12, B (12, i, j, 0) = some (vals 40 1 (fun _ => v12)) ∧ v12.oneCell' = true ∧ q4 0 v12) := h12
  have H11 : Hid (B (11, i, j, 0) = some (gl 50 1 k k (fun t u => u = .pointer (some ⟨E (20, i, j, t), 0, none⟩)))) := h11
  have H3 : Hid (B (3, i, 0, 0) = some (vals 45 (n * 6) D)) := h3
  have HB : Hid (B (10, i, j, 0) = some (vals 45 6 Db)) := hb
  have k0 := hS.val hb (i := 0) (by omega)
  have k1 := hS.val hb (i := 1) (by omega)
  have k2 := hS.val hb (i := 2) (by omega)
  have k3 := hS.val hb (i := 3) (by omega)
  have k4 := hS.val hb (i := 4) (by omega)
  have k5 := hS.val hb (i := 5) (by omega)
  rw [hb0] at k0
  rw [hb1] at k1
  rw [hb2] at k2
  rw [hb3] at k3
  rw [hb4] at k4
  rw [hb5] at k5
  have r0 := hS.val h3 (i := j * 6) (by omega)
  have r1 := hS.val h3 (i := j * 6 + 1) (by omega)
  have r2 := hS.val h3 (i := j * 6 + 2) (by omega)
  have r3 := hS.val h3 (i := j * 6 + 3) (by omega)
  have r4 := hS.val h3 (i := j * 6 + 4) (by omega)
  have r5 := hS.val h3 (i := j * 6 + 5) (by omega)
  have rf := hS.frz h3
  have HS1 : Hid (Sg w0 ((((((w.setCell ⟨E (3, i, 0, 0), j * 6, none⟩ (.int .i64 z0)).setCell ⟨E (3, i, 0, 0), j * 6 + 1, none⟩ (.slice (some ⟨E (11, i, j, 0), 0, none⟩) k k)).setCell ⟨E (3, i, 0, 0), j * 6 + 2, none⟩ (.int .u8 (z2 : Nat))).setCell ⟨E (3, i, 0, 0), j * 6 + 3, none⟩ (.pointer none)).setCell ⟨E (3, i, 0, 0), j * 6 + 4, none⟩ (.slice p4 l l)).setCell ⟨E (3, i, 0, 0), j * 6 + 5, none⟩ (.int .i64 z5)) E (lup B (3, i, 0, 0) (some (vals 45 (n * 6) (set6 D (j * 6) (.int .i64 z0) (.slice (some ⟨E (11, i, j, 0), 0, none⟩) k k) (.int .u8 (z2 : Nat)) (.pointer none) (.slice p4 l l) (.int .i64 z5)))))) := hS.set6 h3 _ _ _ _ _ _ _
  clear hQ hS h12 h11 h3 hb
  refine wp_seq_hid (fun K HK => ?_)
  go_wp2
  refine HK.out _ _ ?_
  clear HK r0 r1 r2 r3 r4 r5 rf k0 k1 k2 k3 k4 k5
  obtain ⟨D1, hD1⟩ : ∃ D1, D1 = set6 D (j * 6) (.int .i64 z0) (.slice (some ⟨E (11, i, j, 0), 0, none⟩) k k) (.int .u8 (z2 : Nat)) (.pointer none) (.slice p4 l l) (.int .i64 z5) := ⟨_, rfl⟩
  rw [← hD1] at HS1
  generalize (((((w.setCell ⟨E (3, i, 0, 0), j * 6, none⟩ (.int .i64 z0)).setCell ⟨E (3, i, 0, 0), j * 6 + 1, none⟩ (.slice (some ⟨E (11, i, j, 0), 0, none⟩) k k)).setCell ⟨E (3, i, 0, 0), j * 6 + 2, none⟩ (.int .u8 (z2 : Nat))).setCell ⟨E (3, i, 0, 0), j * 6 + 3, none⟩ (.pointer none)).setCell ⟨E (3, i, 0, 0), j * 6 + 4, none⟩ (.slice p4 l l)).setCell ⟨E (3, i, 0, 0), j * 6 + 5, none⟩ (.int .i64 z5) = w1 at HS1 ⊢
  have HD1 : Hid (D1 = set6 D (j * 6) (.int .i64 z0) (.slice (some ⟨E (11, i, j, 0), 0, none⟩) k k) (.int .u8 (z2 : Nat)) (.pointer none) (.slice p4 l l) (.int .i64 z5)) := hD1
  clear hD1 HS
  -- R64
  have h10 : lup B (3, i, 0, 0) (some (vals 45 (n * 6) D1)) (10, i, j, 0) = some (vals 45 6 Db) := by rw [lup_other _ _ (by simp)]; exact HB.out
  have k1 := HS1.out.val h10 (i := 1) (by omega)
  rw [hb1] at k1
  have h11 : lup B (3, i, 0, 0) (some (vals 45 (n * 6) D1)) (11, i, j, 0) = some (gl 50 1 k k (fun t u => u = .pointer (some ⟨E (20, i, j, t), 0, none⟩))) := by rw [lup_other _ _ (by simp)]; exact H11.out
  have hnew : 0 < k → ∃ ad, (some (⟨E (11, i, j, 0), 0, none⟩ : Addr)) = some ad ∧ ∀ s u, ((List.range k).map (fun t => Value.pointer (some ⟨E (20, i, j, t), 0, none⟩)))[s]? = some u → w1.cell? (ad.add s) = some u := fun hk0 => by
    refine ⟨_, rfl, fun s u hu => ?_⟩
    rw [List.getElem?_map] at hu
    obtain ⟨t, ht, rfl⟩ := Option.map_eq_some_iff.1 hu
    have hs : s < k := by have := (List.getElem?_eq_some_iff.1 ht).1; simpa using this
    rw [List.getElem?_range hs] at ht
    injection ht with ht
    subst ht
    obtain ⟨v, h1, h2⟩ := HS1.out.read h11 (i := s) (by show s < k * 1; omega)
    rw [add0, h1, h2 (by omega)]
  have hone : ∀ u ∈ (List.range k).map (fun t => Value.pointer (some ⟨E (20, i, j, t), 0, none⟩)), u.oneCell' = true := fun u hu => by
    obtain ⟨t, _, rfl⟩ := List.mem_map.1 hu
    rfl
  have hz : ∀ s u, ((List.range k).map (fun t => Value.pointer (some ⟨E (20, i, j, t), 0, none⟩)))[s]? = some u → u = Value.pointer (some ⟨E (20, i, j, s), 0, none⟩) := fun s u hu => by
    rw [List.getElem?_map] at hu
    obtain ⟨t, ht, rfl⟩ := Option.map_eq_some_iff.1 hu
    have hs : s < k := by have := (List.getElem?_eq_some_iff.1 ht).1; simpa using this
    rw [List.getElem?_range hs] at ht
    injection ht with ht
    subst ht
    rfl
  refine wp_seq_hid (fun K HK => ?_)
  go_wp2_with (at_builtin; refine hF.appc (13, i, j, 0) ety38 rfl 227 228 rfl rfl (by omega) HS1.out _ k k _ (by rfl) (by simp) hnew hone (by omega) (fun s u => u = .pointer (some ⟨E (20, i, j, s), 0, none⟩)) hz (fun v' w' hap => ?_); obtain ⟨E2, B2, hS2, hE2, hB2, cap2, hsl2⟩ := hap; obtain ⟨va, vc, rfl, hvc, hva⟩ := hsl2.form; have hb3' := (hB2 (3, i, 0, 0) (by simp)).trans (lup_same _ _ _); have kc := hS2.val hb3' (i := j * 6 + 1) (by omega); have kf := hS2.frz hb3' (j * 6 + 1); rw [hE2 (3, i, 0, 0) (by simp)] at kc kf)
  refine HK.out _ _ ?_
  clear HK k1 kc kf hnew hone hz
  have hS3 := hS2.setVal hb3' (j * 6 + 1) (.slice va k vc)
  rw [hE2 (3, i, 0, 0) (by simp)] at hS3
  obtain ⟨B3, hB3⟩ : ∃ B3, B3 = lup B2 (3, i, 0, 0) (some (vals 45 (n * 6) (upd D1 (j * 6 + 1) (.slice va k vc)))) := ⟨_, rfl⟩
  have b3 : B3 (3, i, 0, 0) = some (vals 45 (n * 6) (upd D1 (j * 6 + 1) (.slice va k vc))) := by rw [hB3]; exact lup_same _ _ _
  have HB3 : Hid (∀ l : Lab, l ≠ (13, i, j, 0) → l ≠ (3, i, 0, 0) → B3 l = B l) := fun l h1 h2 => by rw [hB3, lup_other _ _ h2, hB2 l h1, lup_other _ _ h2]
  have HE2 : Hid (∀ l : Lab, l ≠ (13, i, j, 0) → E2 l = E l) := hE2
  have hsl3 : Slg E2 B3 (13, i, j, 0) 50 k cap2 (fun s u => u = .pointer (some ⟨E (20, i, j, s), 0, none⟩)) (.slice va k vc) := hsl2.congr rfl (by rw [hB3]; exact lup_other _ _ (by simp))
  rw [← hB3] at hS3
  have HS3 : Hid (Sg w0 (w'.setCell ⟨E (3, i, 0, 0), j * 6 + 1, none⟩ (.slice va k vc)) E2 B3) := hS3
  have HSL3 : Hid (Slg E2 B3 (13, i, j, 0) 50 k cap2 (fun s u => u = .pointer (some ⟨E (20, i, j, s), 0, none⟩)) (.slice va k vc)) := hsl3
  have HBB3 : Hid (B3 (3, i, 0, 0) = some (vals 45 (n * 6) (upd D1 (j * 6 + 1) (.slice va k vc)))) := b3
  clear hS3 hsl3 hsl2 hB3 hS2 hE2 hB2 hb3' HS1 h10 h11 b3
  generalize w'.setCell ⟨E (3, i, 0, 0), j * 6 + 1, none⟩ (.slice va k vc) = w3 at HS3 ⊢
  have k4 := HS3.out.val ((HB3.out (10, i, j, 0) (by simp) (by simp)).trans HB.out) (i := 4) (by omega)
  rw [hb4, HE2.out _ (by simp)] at k4
  obtain ⟨ns, hnl, hnew, hone, hz⟩ : ∃ ns : List Value, ns.length = l ∧ (0 < l → ∃ ad, p4 = some ad ∧ ∀ s u, ns[s]? = some u → w3.cell? (ad.add s) = some u) ∧ (∀ u ∈ ns, u.oneCell' = true) ∧ ∀ s u, ns[s]? = some u → q4 s u := by
    by_cases e : l = 0
    · subst e
      refine ⟨[], rfl, fun h => absurd h (Nat.lt_irrefl _), fun u hu => ?_, fun s u hu => ?_⟩
      · exact absurd hu (List.not_mem_nil)
      · simp at hu
    · obtain ⟨h1, v12, h2, h3, h4⟩ := H12.out (by omega)
      have el : l = 1 := by omega
      subst el
      refine ⟨[v12], rfl, fun _ => ⟨_, h1, fun s u hu => ?_⟩, fun u hu => ?_, fun s u hu => ?_⟩
      · match s, hu with
        | 0, hu =>
          simp at hu
          have := HS3.out.val ((HB3.out (12, i, j, 0) (by simp) (by simp)).trans h2) (i := 0) (by omega)
          rw [HE2.out _ (by simp)] at this
          rw [add0, ← hu]; exact this
      · simp at hu; rw [hu]; exact h3
      · match s, hu with
        | 0, hu =>
          simp at hu
          rw [← hu]; exact h4
  go_wp2_with (at_builtin; refine hF.appc (14, i, j, 0) ety40 rfl 236 237 rfl rfl (by omega) HS3.out _ l l ns (by rfl) hnl hnew hone (by omega) q4 hz (fun v' w' hap => ?_); obtain ⟨E4, B4, hS4, hE4, hB4, cap4, hsl4⟩ := hap; obtain ⟨va4, vc4, rfl, hvc4, hva4⟩ := hsl4.form; have hb4' := (hB4 (3, i, 0, 0) (by simp)).trans HBB3.out; have kc := hS4.val hb4' (i := j * 6 + 4) (by omega); have kf := hS4.frz hb4' (j * 6 + 4); rw [hE4 (3, i, 0, 0) (by simp), HE2.out _ (by simp)] at kc kf)
  have hS5 := hS4.setVal hb4' (j * 6 + 4) (.slice va4 l vc4)
  rw [hE4 (3, i, 0, 0) (by simp), HE2.out _ (by simp)] at hS5
  have hn13 : ((13, i, j, 0) : Lab) ≠ (14, i, j, 0) := by simp
  have hD' : ∀ s, s ≠ j * 6 + 4 → s ≠ j * 6 + 1 → upd (upd D1 (j * 6 + 1) (.slice va k vc)) (j * 6 + 4) (.slice va4 l vc4) s = D1 s := fun s h1 h2 => by rw [upd_other _ _ h1, upd_other _ _ h2]
  refine HQ.out _ _ E4 _ (upd (upd D1 (j * 6 + 1) (.slice va k vc)) (j * 6 + 4) (.slice va4 l vc4)) (fun s hs => ?_) hS5 (fun l h1 h2 => ?_) (fun l h1 h2 h3 => ?_) (lup_same _ _ _) (fun s hs => ?_) ?_ ?_ ?_ ?_ ⟨cap2, ?_⟩ ⟨cap4, ?_⟩
  · simp only [fup_at]
    repeat rw [if_neg (by omega)]
  · rw [hE4 l h2]; exact HE2.out l h1
  · rw [lup_other _ _ h3, hB4 l h2]; exact HB3.out l h1 h3
  · rw [hD' s (by omega) (by omega), HD1.out]
    unfold set6
    rw [upd_other _ _ (by omega), upd_other _ _ (by omega), upd_other _ _ (by omega), upd_other _ _ (by omega), upd_other _ _ (by omega), upd_other _ _ (by omega)]
  · rw [hD' _ (by omega) (by omega), HD1.out]
    unfold set6
    rw [upd_other _ _ (by omega), upd_other _ _ (by omega), upd_other _ _ (by omega), upd_same]
  · rw [hD' _ (by omega) (by omega), HD1.out]
    unfold set6
    rw [upd_same]
  · rw [hD' _ (by omega) (by omega), HD1.out]
    unfold set6
    rw [upd_other _ _ (by omega), upd_other _ _ (by omega), upd_other _ _ (by omega), upd_other _ _ (by omega), upd_other _ _ (by omega), upd_same]
  · rw [hD' _ (by omega) (by omega), HD1.out]
    unfold set6
    rw [upd_other _ _ (by omega), upd_other _ _ (by omega), upd_same]
  · rw [upd_other _ _ (by omega), upd_same]
    exact HSL3.out.congr (hE4 _ hn13) (by rw [lup_other _ _ (by simp), hB4 _ hn13])
  · rw [upd_same]
    exact hsl4.congr rfl (lup_other _ _ (by simp))
end Go.Proofs.YbulkexmzaGreat
