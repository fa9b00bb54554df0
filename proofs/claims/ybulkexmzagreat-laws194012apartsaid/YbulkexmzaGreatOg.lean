/-
  sink.order (11): one block is laid (regions 23 to 33).
-/
import Derived.Test.YbulkexmzaGreatOf
namespace Go.Proofs.YbulkexmzaGreat
open Go.RowKit Go.Shelf
attribute [local go_sem] Oper.semAt_some fup_at

/-- What is no cells lies as it lay. -/
def Kpo (w w' : World) : Prop := ∀ (l : Nat) (o : Obj), w.heap[l]? = some o → o.isCells = false → w'.heap[l]? = some o
theorem Kpo.refl (w : World) : Kpo w w := fun _ _ h _ => h
theorem Kpo.trans {a b c : World} (h : Kpo a b) (k : Kpo b c) : Kpo a c := fun l o h1 h2 => k l o (h l o h1 h2) h2
theorem Kpo.alloc (w : World) (o : Obj) : Kpo w (w.alloc o) := (KeepsOthers.alloc w o).same
theorem Kpo.set (w : World) (a : Addr) (v : Value) : Kpo w (w.setCell a v) := (KeepsOthers.setCell w a v).same
theorem Kpo.app {w0 w w' : World} {K k e size len g cap' : Nat} {E : Nat → Nat} {B : Nat → Lb} {q : Nat → Value → Prop} (h : Appd w0 w K E B k e size len q g cap' w') (hS : St w0 w K E B) (hk : k < K) : Kpo w w' := fun l o h1 h2 => by
  rw [h.2.2 l (Array.getElem?_eq_some_iff.1 h1).1 (fun e => ?_)]
  · exact h1
  · obtain ⟨c, hc, _⟩ := hS.row k hk
    rw [← e, h1] at hc
    cases hc
    simp [Obj.isCells] at h2
/-- The markers of the ranges so far. -/
def Mks (w0 w : World) (ds : List Deferred) : Prop := ∃ Ds : List Nat, ds = Ds.map mkr ∧ Ds.Nodup ∧ ∀ D ∈ Ds, w0.heap.size ≤ D ∧ w.heap[D]? = some (.deferred (some []))
theorem Mks.keep {w0 w w' : World} {ds : List Deferred} (h : Mks w0 w ds) (hk : Kpo w w') : Mks w0 w' ds := by
  obtain ⟨Ds, h1, h2, h3⟩ := h
  exact ⟨Ds, h1, h2, fun D hD => ⟨(h3 D hD).1, hk _ _ (h3 D hD).2 rfl⟩⟩
theorem Mks.add {w0 w w' : World} {ds : List Deferred} {D : Nat} (h : Mks w0 w ds) (hk : Kpo w w') (hw : w0.heap.size ≤ w.heap.size) (hD : w.heap.size ≤ D) (hd : w'.heap[D]? = some (.deferred (some []))) : Mks w0 w' (mkr D :: ds) := by
  obtain ⟨Ds, h1, h2, h3⟩ := h
  refine ⟨D :: Ds, by rw [h1]; rfl, List.nodup_cons.2 ⟨fun hm => ?_, h2⟩, fun D' hD' => ?_⟩
  · have := (Array.getElem?_eq_some_iff.1 (h3 D hm).2).1
    omega
  · rcases List.mem_cons.1 hD' with rfl | hD'
    · exact ⟨by omega, hd⟩
    · exact ⟨(h3 D' hD').1, hk _ _ (h3 D' hD').2 rfl⟩

def isBlk (n : Nat) (bk : Nat → Nat) (_ : Nat) (u : Value) : Prop := ∃ k, k < n ∧ u = .pointer (some ⟨bk k, 0, none⟩)
def boolAt (_ : Nat) (u : Value) : Prop := ∃ b, u = .bool b
/-- order's memory, but for the stack. -/
structure Osb (w0 w : World) (E : Nat → Nat) (B : Nat → Lb) (n : Nat) (bk : Nat → Nat) (ds : List Deferred) (len : Nat) (v : Value) (K : Nat) : Prop where
  st : St w0 w K E B
  mks : Mks w0 w ds
  b0 : ∃ pv, B 0 = bx 46 pv
  b1 : B 1 = bx 102 (.func (.func 24) #[] #[.pointer (some ⟨E 0, 0, none⟩)])
  b2 : B 2 = zrow 4 n (.bool false)
  b3 : ∃ cap, Sl E B 3 40 1 len cap (isBlk n bk) v
  b4 : B 4 = ⟨4, n, boolAt⟩
  b5 : B 5 = bx 70 (.slice (some ⟨E 4, 0, none⟩) n n)
  b7 : B 7 = ⟨4, 2, boolAt⟩
theorem Osb.step {w0 w w' : World} {E E' : Nat → Nat} {B B' : Nat → Lb} {n : Nat} {bk : Nat → Nat} {ds ds' : List Deferred} {len len' : Nat} {v v' : Value} {K K' : Nat} (h : Osb w0 w E B n bk ds len v K) (hS : St w0 w' K' E' B') (hk : Mks w0 w' ds')
    (he : ∀ k, k < 8 → k ≠ 3 → E' k = E k) (hb : ∀ k, k < 8 → k ≠ 3 → k ≠ 6 → B' k = B k) (h3 : ∃ cap, Sl E' B' 3 40 1 len' cap (isBlk n bk) v') : Osb w0 w' E' B' n bk ds' len' v' K' :=
  ⟨hS, hk, by rw [hb 0 (by omega) (by omega) (by omega)]; exact h.b0, by rw [hb 1 (by omega) (by omega) (by omega), he 0 (by omega) (by omega)]; exact h.b1, by rw [hb 2 (by omega) (by omega) (by omega)]; exact h.b2, h3, by rw [hb 4 (by omega) (by omega) (by omega)]; exact h.b4,
    by rw [hb 5 (by omega) (by omega) (by omega), he 4 (by omega) (by omega)]; exact h.b5, by rw [hb 7 (by omega) (by omega) (by omega)]; exact h.b7⟩
/-- order's memory between two blocks: the stack is empty. -/
structure Osd (w0 w : World) (E : Nat → Nat) (B : Nat → Lb) (n : Nat) (bk : Nat → Nat) (ds : List Deferred) (len : Nat) (v sv : Value) (K : Nat) : Prop extends Osb w0 w E B n bk ds len v K where
  b6 : B 6 = bx 39 sv
  stk : (K = 8 ∧ sv = .slice none 0 0) ∨ (K = 9 ∧ ∃ cap q, Sl E B 8 40 1 0 cap q sv)
theorem Osd.k8 {w0 w : World} {E : Nat → Nat} {B : Nat → Lb} {n : Nat} {bk : Nat → Nat} {ds : List Deferred} {len : Nat} {v sv : Value} {K : Nat} (h : Osd w0 w E B n bk ds len v sv K) : 8 ≤ K := by
  rcases h.stk with ⟨h, _⟩ | ⟨h, _⟩ <;> omega
/-- A register for the stack's row. -/
theorem Osd.stack {w0 w : World} {E : Nat → Nat} {B : Nat → Lb} {n : Nat} {bk : Nat → Nat} {ds : List Deferred} {len : Nat} {v sv : Value} {K : Nat} (h : Osd w0 w E B n bk ds len v sv K) (u : Value) :
    ∃ E1 B1 cap q, (∀ k, k < 8 → E1 k = E k) ∧ (∀ k, k < 8 → B1 k = B k) ∧ St w0 (w.alloc (.cells #[u] 40)) 9 E1 B1 ∧ Sl E1 B1 8 40 1 0 cap q sv := by
  rcases h.stk with ⟨rfl, rfl⟩ | ⟨rfl, cap, q, hs⟩
  · refine ⟨upd E 8 w.heap.size, upd B 8 ⟨40, 1, fun _ _ => True⟩, 0, fun _ _ => True, fun k hk => upd_other _ _ (by omega), fun k hk => upd_other _ _ (by omega), ?_, .inl ⟨rfl, rfl⟩⟩
    exact h.st.new #[u] 40 8 9 (.inr ⟨rfl, rfl⟩) _ rfl rfl (fun _ _ _ => trivial)
  · exact ⟨E, B, cap, q, fun _ _ => rfl, fun _ _ => rfl, h.st.alloc _, hs⟩
/-- The slots that stay. -/
structure Osf (f : Nat → Value) (E : Nat → Nat) (fb n : Nat) : Prop where
  f0 : f 0 = .pointer (some ⟨fb, 0, none⟩)
  f3 : f 3 = .pointer (some ⟨E 0, 0, none⟩)
  f5 : f 5 = .pointer (some ⟨E 1, 0, none⟩)
  f6 : f 6 = .slice (some ⟨E 2, 0, none⟩) n n
  f12 : f 12 = .pointer (some ⟨E 5, 0, none⟩)
  f13 : f 13 = .pointer (some ⟨E 6, 0, none⟩)
theorem Osf.keep {f f' : Nat → Value} {E E' : Nat → Nat} {fb n : Nat} (h : Osf f E fb n) (hf : ∀ s, s < 14 → s ≠ 11 → f' s = f s) (he : ∀ k, k < 7 → k ≠ 3 → E' k = E k) : Osf f' E' fb n :=
  ⟨by rw [hf 0 (by omega) (by omega)]; exact h.f0, by rw [hf 3 (by omega) (by omega), he 0 (by omega) (by omega)]; exact h.f3, by rw [hf 5 (by omega) (by omega), he 1 (by omega) (by omega)]; exact h.f5, by rw [hf 6 (by omega) (by omega), he 2 (by omega) (by omega)]; exact h.f6, by rw [hf 12 (by omega) (by omega), he 5 (by omega) (by omega)]; exact h.f12, by rw [hf 13 (by omega) (by omega), he 6 (by omega) (by omega)]; exact h.f13⟩

set_option maxHeartbeats 4000000 in
set_option maxRecDepth 100000 in
theorem o23 {G : List Deferred → (Nat → Value) → Act} (hG : ∀ ds, Frd 175 ds (G ds)) (hre : ∀ ds ds' f, (⟨(G ds f).tmps, ds'⟩ : Act) = G ds' f) {ds : List Deferred} {w0 w : World} {E : Nat → Nat} {B : Nat → Lb} {n fb i len K0 : Nat} {bk kd : Nat → Nat} {sc : Nat → Option Nat} {v sv : Value} {f : Nat → Value} {Q : Exit → Act → World → Prop}
    (hC : Cfg w0 fb n bk sc) (hkc : ∀ k, k < n → w0.cell? ⟨bk k, 2, none⟩ = some (.int .u8 (kd k : Nat)) ∧ kd k ≠ 1) (hi : i < n) (hlen : len ≤ 1000000)
    (hO : Osd w0 w E B n bk ds len v sv K0) (hF : Osf f E fb n) (h11 : f 11 = v) (h17 : f 17 = .pointer (some ⟨bk i, 0, none⟩))
    (hQ : ∀ x w' E' B' ds' v' sv', (∀ s, s ≠ 11 → s ≠ 18 → s ≠ 19 → s < 118 → x s = f s) → (∀ k, k < 8 → k ≠ 3 → E' k = E k) → x 11 = v' → Osd w0 w' E' B' n bk ds' (len + 1) v' sv' 9 → Q .normal (G ds' x) w') :
    ((Ybaz.f11.body.bind (codeAt 23)).getD .skip).wp Ybaz.prog Q (G ds f) w := by
  conv => arg 2; whnf
  have hget := (hG ds).get
  have hmk := (hG ds).up
  have HQ : Hid (∀ x w' E' B' ds' v' sv', (∀ s, s ≠ 11 → s ≠ 18 → s ≠ 19 → s < 118 → x s = f s) → (∀ k, k < 8 → k ≠ 3 → E' k = E k) → x 11 = v' → Osd w0 w' E' B' n bk ds' (len + 1) v' sv' 9 → Q .normal (G ds' x) w') := hQ
  have HO : Hid (Osd w0 w E B n bk ds len v sv K0) := hO
  have HF : Hid (Osf f E fb n) := hF
  have h13 := hF.f13
  obtain ⟨sl, scap, rfl⟩ : ∃ a c, sv = .slice a 0 c := by
    rcases hO.stk with ⟨_, rfl⟩ | ⟨_, cap, q, hs⟩
    · exact ⟨_, _, rfl⟩
    · obtain ⟨a, c, h, _⟩ := hs.form; exact ⟨a, c, h⟩
  obtain ⟨E1, B1, c1, q1, he1, hb1, hS1, hSl1⟩ := hO.stack (.pointer (some ⟨bk i, 0, none⟩))
  have k6 := hO.st.box (k := 6) (by have := hO.k8; omega) hO.b6
  have HS1 : Hid (St w0 (w.alloc (.cells #[.pointer (some ⟨bk i, 0, none⟩)] 40)) 9 E1 B1) := hS1
  have HSl1 : Hid (Sl E1 B1 8 40 1 0 c1 q1 (.slice sl 0 scap)) := hSl1
  have HE1 : Hid (∀ k, k < 8 → E1 k = E k) := he1
  have HB1 : Hid (∀ k, k < 8 → B1 k = B k) := hb1
  clear hQ hO hF hS1 hSl1 he1 hb1
  refine wp_seq_hid (fun K HK => ?_)
  go_wp2_with (at_builtin; refine (hG ds).app ety40 rfl 119 121 122 rfl rfl (by omega) (by omega) HSl1.out HS1.out (by omega) rfl _ rfl [.pointer (some ⟨bk i, 0, none⟩)] rfl (news1 _ _ _) (by simp [Value.oneCell']) (by omega) (fun _ u => u = .pointer (some ⟨bk i, 0, none⟩)) (fun i u hi hq => by omega) (fun j u hj => ?zz) ?_; (case zz => match j, hj with | 0, hj => simp at hj; exact hj.symm); intro g3 d3 w3 hap; have k6' : w3.cell? ⟨E 6, 0, none⟩ = some (.slice sl 0 scap) := (by rw [← HE1.out 6 (by omega)]; have := hap.1.box (k := 6) (by omega) (by rw [upd_other _ _ (by omega), HB1.out 6 (by omega)]; exact HO.out.b6); rwa [upd_other _ _ (by omega)] at this); have k6f : w3.frozen? ⟨E 6, 0, none⟩ = false := (by rw [← HE1.out 6 (by omega)]; have := hap.1.frz 6 (by omega) 0; rwa [upd_other _ _ (by omega)] at this))
  refine HK.out _ _ ?_
  clear HK
  obtain ⟨c8, hc8⟩ : ∃ c, c = d3 := ⟨_, rfl⟩
  have hO2 : ∃ E2 B2, Osb w0 (w3.setCell ⟨E 6, 0, none⟩ (.slice (some ⟨g3, 0, none⟩) 1 d3)) E2 B2 n bk ds len v 9 ∧ (∀ k, k < 8 → E2 k = E k) ∧ B2 6 = bx 39 (.slice (some ⟨E2 8, 0, none⟩) 1 d3) ∧ B2 8 = gl 40 1 1 d3 (fun _ u => u = .pointer (some ⟨bk i, 0, none⟩)) ∧ E2 8 = g3 ∧ 1 ≤ d3 ∧ d3 ≤ maxLen := by
    have h1 := hap.1.set 6 (by omega) (bx 39 (.slice (some ⟨g3, 0, none⟩) 1 d3)) (by rw [upd_other _ _ (by omega), HB1.out 6 (by omega), HO.out.b6]; rfl) (by rw [upd_other _ _ (by omega), HB1.out 6 (by omega), HO.out.b6]; rfl) (i := 0) (v := .slice (some ⟨g3, 0, none⟩) 1 d3) rfl (fun j u hj hjn _ => by
      rw [upd_other _ _ (by omega), HB1.out 6 (by omega), HO.out.b6] at hjn
      have : j < 1 := hjn
      omega)
    rw [upd_other _ _ (show 6 ≠ 8 by omega), HE1.out 6 (by omega)] at h1
    obtain ⟨_, _, hcap, hmx⟩ : _ ∧ _ ∧ 1 ≤ d3 ∧ d3 ≤ maxLen := by
      rcases hap.2.1 with ⟨h, _⟩ | h
      · cases h
      · exact h
    refine ⟨_, _, HO.out.toOsb.step h1 (((HO.out.mks.keep (Kpo.alloc _ _)).keep (Kpo.app hap HS1.out (by omega))).keep (Kpo.set _ _ _)) (fun k hk _ => by rw [upd_other _ _ (by omega), HE1.out k hk]) (fun k hk h3 h6 => by rw [upd_other _ _ h6, upd_other _ _ (by omega), HB1.out k hk]) ?_, fun k hk => by rw [upd_other _ _ (by omega), HE1.out k hk], by rw [upd_same, upd_same], by rw [upd_other _ _ (by omega), upd_same], upd_same _ _ _, hcap, hmx⟩
    obtain ⟨cap, h3⟩ := HO.out.b3
    exact ⟨cap, h3.congr (by rw [upd_other _ _ (by omega), HE1.out 3 (by omega)]) (by rw [upd_other _ _ (by omega), upd_other _ _ (by omega), HB1.out 3 (by omega)])⟩
  obtain ⟨E2, B2, hOb, hE2, hb6, hb8, rfl, hcap, hmx⟩ := hO2
  have HE2 : Hid (∀ k, k < 8 → E2 k = E k) := hE2
  have HOb : Hid (Osb w0 (w3.setCell ⟨E 6, 0, none⟩ (.slice (some ⟨E2 8, 0, none⟩) 1 d3)) E2 B2 n bk ds len v 9) := hOb
  clear hE2 hOb k6 k6' k6f hap HSl1 HS1 HE1 HB1 HO
  generalize w3.setCell ⟨E 6, 0, none⟩ (.slice (some ⟨E2 8, 0, none⟩) 1 d3) = w4 at HOb ⊢
  refine wp_block ?_
  have Hf0 : Hid (∀ s, s ≠ 11 → s ≠ 18 → s ≠ 19 → s < 118 → fup (fup (fup (fup f 119 (.slice sl 0 scap)) 120 (.pointer (some ⟨bk i, 0, none⟩))) 121 (.slice (some ⟨w.heap.size, 0, none⟩) 1 1)) 122 (.slice (some ⟨E2 8, 0, none⟩) 1 d3) s = f s) := fun s _ _ _ hs => by simp only [fup_at]; rw [if_neg (by omega), if_neg (by omega), if_neg (by omega), if_neg (by omega)]
  refine wp_loop_ghost_k (fun g a w => ∃ ds f', a = G ds f' ∧ (∀ s, s ≠ 11 → s ≠ 18 → s ≠ 19 → s < 118 → f' s = f s) ∧ ((g = 1 ∧ f' 11 = v ∧ Osb w0 w E2 B2 n bk ds len v 9) ∨ (g = 0 ∧ ∃ E' B' v' sv', (∀ k, k < 8 → k ≠ 3 → E' k = E k) ∧ f' 11 = v' ∧ Osd w0 w E' B' n bk ds (len + 1) v' sv' 9))) 1 ⟨ds, _, rfl, Hf0.out, .inl ⟨rfl, by simp [fup_at, h11], HOb.out⟩⟩ ?_
  clear HOb Hf0 hget hmk
  rintro g _ w5 ⟨ds, f1, rfl, hf1, hcase⟩ J K1 hJ hK1
  have HJ : Hid _ := hJ
  have HK1 : Hid (∀ a' w', Handed J g a' w' → K1 a' w') := hK1
  have Hf1 : Hid (∀ s, s ≠ 11 → s ≠ 18 → s ≠ 19 → s < 118 → f1 s = f s) := hf1
  have hget := (hG ds).get
  have hmk := (hG ds).up
  have g13 : f1 13 = .pointer (some ⟨E 6, 0, none⟩) := (hf1 13 (by omega) (by omega) (by omega) (by omega)).trans HF.out.f13
  clear hJ hK1 hf1
  refine wp_seq_hid (fun K2 HK2 => ?_)
  refine wp_seq_hid (fun K3 HK3 => ?_)
  rcases hcase with ⟨rfl, x11, hOb⟩ | ⟨rfl, E', B', v', sv', hE', x11, hO'⟩
  · have k6 : w5.cell? ⟨E 6, 0, none⟩ = some (.slice (some ⟨E2 8, 0, none⟩) 1 d3) := by rw [← HE2.out 6 (by omega)]; exact hOb.st.box (k := 6) (by omega) hb6
    have HOb : Hid (Osb w0 w5 E2 B2 n bk ds len v 9) := hOb
    clear hOb
    go_wp2
    refine HK3.out _ _ ?_
    clear HK3
    refine (hG ds).cond (by omega) rfl (fun h => ?_) (fun h => by cases h)
    clear h
    go_wp2
    refine HK2.out _ _ ?_
    clear HK2
    refine wp_block ?_
    have k8 : w5.cell? ⟨E2 8, 0, none⟩ = some (.pointer (some ⟨bk i, 0, none⟩)) := by
      obtain ⟨u, h1, h2⟩ := HOb.out.st.read 8 (by omega) (i := 0) (by rw [hb8]; show 0 < d3 * 1; omega)
      rw [hb8] at h2
      rw [h1, h2 (by omega)]
    refine wp_seq_hid (fun K3 HK3 => ?_)
    go_wp2
    refine HK3.out _ _ ?_
    clear HK3
    obtain ⟨E3, hE3⟩ : ∃ E3, E3 = upd E2 9 w5.heap.size := ⟨_, rfl⟩
    obtain ⟨B3, hB3⟩ : ∃ B3, B3 = upd B2 9 (bx 40 (.pointer (some ⟨bk i, 0, none⟩))) := ⟨_, rfl⟩
    have hOc : Osb w0 (w5.alloc (.cells #[.pointer (some ⟨bk i, 0, none⟩)] 40)) E3 B3 n bk ds len v 10 := by
      obtain ⟨cap, h3⟩ := HOb.out.b3
      rw [hE3, hB3]
      exact HOb.out.step (HOb.out.st.new #[.pointer (some ⟨bk i, 0, none⟩)] 40 9 10 (.inr ⟨rfl, rfl⟩) (bx 40 (.pointer (some ⟨bk i, 0, none⟩))) rfl rfl (fun j u hu => by
        match j, hu with
        | 0, hu => simp at hu; exact hu.symm)) (HOb.out.mks.keep (Kpo.alloc _ _)) (fun k hk _ => upd_other _ _ (by omega)) (fun k hk _ _ => upd_other _ _ (by omega)) ⟨cap, h3.congr (upd_other _ _ (by omega)) (upd_other _ _ (by omega))⟩
    have e9 : w5.heap.size = E3 9 := by rw [hE3, upd_same]
    have e8 : E2 8 = E3 8 := by rw [hE3, upd_other _ _ (by omega)]
    have b6 : B3 6 = bx 39 (.slice (some ⟨E3 8, 0, none⟩) 1 d3) := by rw [hB3, upd_other _ _ (by omega), hb6, e8]
    have b8 : B3 8 = gl 40 1 1 d3 (fun _ u => u = .pointer (some ⟨bk i, 0, none⟩)) := by rw [hB3, upd_other _ _ (by omega), hb8]
    have b9 : B3 9 = bx 40 (.pointer (some ⟨bk i, 0, none⟩)) := by rw [hB3, upd_same]
    have HE3 : Hid (∀ k, k < 8 → E3 k = E k) := fun k hk => by rw [hE3, upd_other _ _ (by omega)]; exact HE2.out k hk
    rw [e9, e8]
    clear hE3 hB3 e9 e8 HOb k6 k8
    generalize w5.alloc (.cells #[.pointer (some ⟨bk i, 0, none⟩)] 40) = w6 at hOc ⊢
    have HOc : Hid (Osb w0 w6 E3 B3 n bk ds len v 10) := hOc
    have k6 : w6.cell? ⟨E 6, 0, none⟩ = some (.slice (some ⟨E3 8, 0, none⟩) 1 d3) := by rw [← HE3.out 6 (by omega)]; exact hOc.st.box (k := 6) (by omega) b6
    have k6f : w6.frozen? ⟨E 6, 0, none⟩ = false := by rw [← HE3.out 6 (by omega)]; exact hOc.st.frz 6 (by omega) 0
    clear hOc
    have hmxz : (0 : Int) ≤ (d3 : Int) := by omega
    refine wp_seq_hid (fun K3 HK3 => ?_)
    go_wp2
    refine HK3.out _ _ ?_
    clear HK3 k6 k6f
    obtain ⟨B4, hB4⟩ : ∃ B4, B4 = upd (upd B3 8 (gl 40 1 0 d3 (fun _ _ => True))) 6 (bx 39 (.slice (some ⟨E3 8, 0, none⟩) 0 d3)) := ⟨_, rfl⟩
    have hOd : Osb w0 (w6.setCell ⟨E 6, 0, none⟩ (.slice (some ⟨E3 8, 0, none⟩) 0 d3)) E3 B4 n bk ds len v 10 := by
      obtain ⟨cap, h3⟩ := HOc.out.b3
      rw [hB4]
      have s1 := HOc.out.st.wkn 8 (gl 40 1 0 d3 (fun _ _ => True)) (by rw [b8]; rfl) (by rw [b8]; rfl) (fun _ _ _ _ _ => trivial)
      have s2 := s1.set 6 (by omega) (bx 39 (.slice (some ⟨E3 8, 0, none⟩) 0 d3)) (by rw [upd_other _ _ (by omega), b6]; rfl) (by rw [upd_other _ _ (by omega), b6]; rfl) (i := 0) (v := .slice (some ⟨E3 8, 0, none⟩) 0 d3) rfl (fun j u hj hjn _ => by
        rw [upd_other _ _ (by omega), b6] at hjn
        have : j < 1 := hjn
        omega)
      rw [HE3.out 6 (by omega)] at s2
      exact HOc.out.step s2 (HOc.out.mks.keep (Kpo.set _ _ _)) (fun _ _ _ => rfl) (fun k hk _ h6 => by rw [upd_other _ _ h6, upd_other _ _ (by omega)]) ⟨cap, h3.congr rfl (by rw [upd_other _ _ (by omega), upd_other _ _ (by omega)])⟩
    have b6' : B4 6 = bx 39 (.slice (some ⟨E3 8, 0, none⟩) 0 d3) := by rw [hB4, upd_same]
    have b8' : B4 8 = gl 40 1 0 d3 (fun _ _ => True) := by rw [hB4, upd_other _ _ (by omega), upd_same]
    have b9' : B4 9 = bx 40 (.pointer (some ⟨bk i, 0, none⟩)) := by rw [hB4, upd_other _ _ (by omega), upd_other _ _ (by omega)]; exact b9
    clear hB4 HOc b6 b8 b9
    generalize w6.setCell ⟨E 6, 0, none⟩ (.slice (some ⟨E3 8, 0, none⟩) 0 d3) = w7 at hOd ⊢
    have HOd : Hid (Osb w0 w7 E3 B4 n bk ds len v 10) := hOd
    obtain ⟨c3, hSl3⟩ := hOd.b3
    obtain ⟨va, vc, rfl, _⟩ := hSl3.form
    have HSl3 : Hid (Sl E3 B4 3 40 1 len c3 (isBlk n bk) (.slice va len vc)) := hSl3
    have k9 := hOd.st.box (k := 9) (by omega) b9'
    clear hOd hSl3
    refine wp_seq_hid (fun K3 HK3 => ?_)
    go_wp2_with (at_builtin; refine (hG ds).app ety40 rfl 137 139 140 rfl rfl (by omega) (by omega) HSl3.out (HOd.out.st.alloc _) (by omega) rfl _ rfl [.pointer (some ⟨bk i, 0, none⟩)] rfl (news1 _ _ _) (by simp [Value.oneCell']) (by omega) (isBlk n bk) (fun i u hi hq => hq) (fun j u hj => ?zz) ?_; (case zz => match j, hj with | 0, hj => simp at hj; exact ⟨i, hi, hj.symm⟩); intro g4 d4 w8 hap)
    refine HK3.out _ _ ?_
    clear HK3
    obtain ⟨E4, hE4⟩ : ∃ E4, E4 = upd E3 3 g4 := ⟨_, rfl⟩
    obtain ⟨B5, hB5⟩ : ∃ B5, B5 = upd B4 3 (gl 40 1 (len + 1) d4 (isBlk n bk)) := ⟨_, rfl⟩
    have hOe : Osb w0 w8 E4 B5 n bk ds (len + 1) (.slice (some ⟨g4, 0, none⟩) (len + 1) d4) 10 := by
      rw [hE4, hB5]
      exact HOd.out.step hap.1 ((HOd.out.mks.keep (Kpo.alloc _ _)).keep (Kpo.app hap (HOd.out.st.alloc _) (by omega))) (fun k hk h3 => upd_other _ _ h3) (fun k hk h3 _ => upd_other _ _ h3) ⟨_, hap.2.1⟩
    have b6 : B5 6 = bx 39 (.slice (some ⟨E4 8, 0, none⟩) 0 d3) := by rw [hB5, hE4, upd_other _ _ (by omega), upd_other _ _ (by omega), b6']
    have b8 : B5 8 = gl 40 1 0 d3 (fun _ _ => True) := by rw [hB5, upd_other _ _ (by omega), b8']
    have b9 : B5 9 = bx 40 (.pointer (some ⟨bk i, 0, none⟩)) := by rw [hB5, upd_other _ _ (by omega), b9']
    have HE4 : Hid (∀ k, k < 8 → k ≠ 3 → E4 k = E k) := fun k hk h3 => by rw [hE4, upd_other _ _ h3]; exact HE3.out k hk
    have e9 : E3 9 = E4 9 := by rw [hE4, upd_other _ _ (by omega)]
    have e8 : E3 8 = E4 8 := by rw [hE4, upd_other _ _ (by omega)]
    rw [e9, e8]
    clear hE4 hB5 e9 e8 HOd hap b6' b8' b9' HSl3 HE3 k9
    have HOe : Hid (Osb w0 w8 E4 B5 n bk ds (len + 1) (.slice (some ⟨g4, 0, none⟩) (len + 1) d4) 10) := hOe
    have k9 := hOe.st.box (k := 9) (by omega) b9
    obtain ⟨pv, hb0⟩ := hOe.b0
    have k0 : w8.cell? ⟨E 0, 0, none⟩ = some pv := by rw [← HE4.out 0 (by omega) (by omega)]; exact hOe.st.box (k := 0) (by omega) hb0
    have g3' : f1 3 = .pointer (some ⟨E 0, 0, none⟩) := (Hf1.out 3 (by omega) (by omega) (by omega) (by omega)).trans HF.out.f3
    have g5 : f1 5 = .pointer (some ⟨E4 1, 0, none⟩) := (Hf1.out 5 (by omega) (by omega) (by omega) (by omega)).trans (by rw [HE4.out 1 (by omega) (by omega)]; exact HF.out.f5)
    have kk := old_cell hOe.st.since (hkc i hi).1
    obtain ⟨ao, wl, wc, sb, so, zs, ks0, hao, hwl, hcell⟩ : ∃ ao wl wc sb so, ∃ zs : Nat → Nat, w0.cell? ⟨bk i, 4, none⟩ = some (.slice ao wl wc) ∧ (0 < wl → ao = some ⟨sb, so, none⟩) ∧ wl ≤ 1 ∧ ∀ j, j < wl → w0.cell? ⟨sb, so + j, none⟩ = some (.pointer (some ⟨zs j, 0, none⟩)) := by
      rcases hC.succ i hi with ⟨_, ks⟩ | ⟨t, sb, so, c, _, ht, ks, kt⟩
      · exact ⟨_, _, _, 0, 0, fun _ => 0, ks, fun h => by omega, by omega, fun j hj => by omega⟩
      · refine ⟨_, _, _, sb, so, fun _ => bk t, ks, fun _ => rfl, by omega, fun j hj => ?_⟩
        obtain rfl : j = 0 := by omega
        exact kt
    have HC := ways12 (w := w8) (b := bk i) (k := kd i) (pv := pv) kk (hkc i hi).2 (old_cell hOe.st.since ks0)
    clear hOe
    refine wp_seq_hid (fun K3 HK3 => ?_)
    go_wp2_with (go_at_call 12; refine Calls.mono HC ?_; rintro e w9 ⟨rfl, rfl⟩; dsimp only)
    refine HK3.out _ _ ?_
    clear HK3
    refine o29 hG hre (bb := bk i) (kd := kd i) (b := sb) (off := so) (len := wl) (ao := ao) (cap := wc) (zs := zs) HOe.out.st HOe.out.b1 b9 (hkc i hi).1 (hkc i hi).2 (by simp [fup_at, g5]) (by simp [fup_at]) (by simp [fup_at]) hao (by omega) hcell ?_
    intro x D w10 hx hS10 hD hold hDd
    refine HK1.out _ _ ⟨0, by omega, HJ.out _ _ _ ⟨_, x, rfl, fun s h1 h2 h3 h4 => ?_, .inr ⟨rfl, E4, B5, _, _, HE4.out, ?_, HOe.out.step (hS10.less (by omega)) (HOe.out.mks.add (fun l o h1 h2 => ?_) HOe.out.st.since.size hD hDd) (fun _ _ _ => rfl) (fun _ _ _ _ => rfl) HOe.out.b3, b6, .inr ⟨rfl, d3, fun _ _ => True, .inr ⟨rfl, b8, Nat.zero_le _, hmx⟩⟩⟩⟩⟩
    · rw [hx s (by omega) (by omega)]
      simp only [fup_at]
      repeat rw [if_neg (by omega)]
      exact Hf1.out s h1 h2 h3 h4
    · rw [hx 11 (by omega) (by omega)]; simp [fup_at]
    · rw [hold l (Array.getElem?_eq_some_iff.1 h1).1]; exact h1
  · obtain ⟨c8, q8, hs8⟩ : ∃ c q, Sl E' B' 8 40 1 0 c q sv' := by
      rcases hO'.stk with ⟨h, _⟩ | ⟨_, h⟩
      · omega
      · exact h
    obtain ⟨sa, sc', rfl, _⟩ := hs8.form
    have k6 : w5.cell? ⟨E 6, 0, none⟩ = some (.slice sa 0 sc') := by rw [← hE' 6 (by omega) (by omega)]; exact hO'.st.box (k := 6) (by omega) hO'.b6
    have HO' : Hid (Osd w0 w5 E' B' n bk ds (len + 1) v' (.slice sa 0 sc') 9) := hO'
    clear hO' hs8
    go_wp2
    refine HK3.out _ _ ?_
    clear HK3 HK2
    refine (hG ds).cond (by omega) rfl (fun h => by cases h) (fun h => ?_)
    clear h
    go_wp2
    exact HQ.out _ _ E' B' ds v' _ (fun s h1 h2 h3 h4 => by
      simp only [fup_at]
      repeat rw [if_neg (by omega)]
      exact Hf1.out s h1 h2 h3 h4) hE' (by simp [fup_at, x11]) HO'.out
end Go.Proofs.YbulkexmzaGreat
