/-
  sink.order (11): the range over slices.Backward(ways) (regions 29 to 33).
-/
import Derived.Test.YbulkexmzaGreatOe
namespace Go.Proofs.YbulkexmzaGreat
open Go.RowKit Go.Shelf
attribute [local go_sem] Oper.semAt_some fup_at

theorem Frd.condIn {N : Nat} {ds : List Deferred} {F : (Nat → Value) → Act} {X : Fence} {n : Nat} {P : Program} {Q : Exit → Act → World → Prop} {w : World} {f : Nat → Value} {s : Nat} {x y : Code} {t : Bool} (h : Frd N ds F) (hs : s < N) (hc : f s = .bool t)
    (ht : t = true → x.wpIn X n P Q (F f) w) (hf : t = false → y.wpIn X n P Q (F f) w) : (Code.cond (.tmp s) x y).wpIn X n P Q (F f) w :=
  wpIn_cond_split ((h.eval f hs).trans hc) ht hf
theorem keeps_of {W W' : World} (h : ∀ b, b < W.heap.size → W'.heap[b]? = W.heap[b]?) : KeepsOthers W W' := by
  refine ⟨?_, fun l o hl _ => ?_⟩
  · by_cases hlt : W.heap.size ≤ W'.heap.size
    · exact hlt
    · have := h W'.heap.size (by omega)
      rw [Array.getElem?_eq_none (Nat.le_refl _), Array.getElem?_eq_getElem (show W'.heap.size < W.heap.size by omega)] at this
      cases this
  · rw [h l (Array.getElem?_eq_some_iff.1 hl).1]; exact hl
/-- A marker of a range over a function. -/
def mkr (D : Nat) : Deferred := { target := .collected D, args := #[] }

set_option maxHeartbeats 4000000 in
set_option maxRecDepth 100000 in
theorem o29 {G : List Deferred → (Nat → Value) → Act} (hG : ∀ ds, Frd 175 ds (G ds)) (hre : ∀ ds ds' f, (⟨(G ds f).tmps, ds'⟩ : Act) = G ds' f) {ds : List Deferred} {w0 w : World} {E : Nat → Nat} {B : Nat → Lb} {bb kd b off len cap : Nat} {ao : Option Addr} {zs : Nat → Nat} {f : Nat → Value} {Q : Exit → Act → World → Prop}
    (hS : St w0 w 10 E B) (b1 : B 1 = bx 102 (.func (.func 24) #[] #[.pointer (some ⟨E 0, 0, none⟩)])) (b9 : B 9 = bx 40 (.pointer (some ⟨bb, 0, none⟩))) (kkd : w0.cell? ⟨bb, 2, none⟩ = some (.int .u8 (kd : Nat))) (hkd : kd ≠ 1) (h5 : f 5 = .pointer (some ⟨E 1, 0, none⟩)) (h18 : f 18 = .pointer (some ⟨E 9, 0, none⟩)) (h19 : f 19 = .slice ao len cap)
    (hao : 0 < len → ao = some ⟨b, off, none⟩) (hlen : len ≤ 1000000000) (hcell : ∀ j, j < len → w0.cell? ⟨b, off + j, none⟩ = some (.pointer (some ⟨zs j, 0, none⟩)))
    (hQ : ∀ x D w', (∀ s, s ≠ 144 → s ≠ 145 → x s = f s) → St w0 w' 10 E B → w.heap.size ≤ D → (∀ b, b < w.heap.size → w'.heap[b]? = w.heap[b]?) → w'.heap[D]? = some (.deferred (some [])) → Q .normal (G (mkr D :: ds) x) w') :
    ((Ybaz.f11.body.bind (codeAt 29)).getD .skip).wp Ybaz.prog Q (G ds f) w := by
  conv => arg 2; whnf
  have hget := (hG ds).get
  have hmk := (hG ds).up
  have HQ : Hid (∀ x D w', (∀ s, s ≠ 144 → s ≠ 145 → x s = f s) → St w0 w' 10 E B → w.heap.size ≤ D → (∀ b, b < w.heap.size → w'.heap[b]? = w.heap[b]?) → w'.heap[D]? = some (.deferred (some [])) → Q .normal (G (mkr D :: ds) x) w') := hQ
  have HS : Hid (St w0 w 10 E B) := hS
  clear hQ hS
  refine wp_seq_hid (fun K HK => ?_)
  go_wp2_with (go_at_call 25; refine Calls.mono (back25 _ _ _ _) ?_; rintro e w3 ⟨rfl, rfl⟩; dsimp only)
  refine HK.out _ _ ?_
  clear HK
  refine wp_block ?_
  have H0 : St w0 (w.alloc (.cells #[.slice ao len cap] 39)) 10 E B ∧ (∀ b, b < w.heap.size → (w.alloc (.cells #[.slice ao len cap] 39)).heap[b]? = w.heap[b]?) ∧ (w.alloc (.cells #[.slice ao len cap] 39)).cell? ⟨w.heap.size, 0, none⟩ = some (.slice ao len cap) := ⟨HS.out.alloc _, fun b hb => Go.Deep.blk_alloc_lt _ _ _ hb, by
    have := Go.Deep.blk_alloc_new w (.cells #[.slice ao len cap] 39)
    unfold World.cell?
    rw [this]; rfl⟩
  have hsz := HS.out.since.size
  refine wpIn_wide.1 (wpIn_known (n := 9) (gf := 43) (lb := #[.pointer (some ⟨w.heap.size, 0, none⟩)]) ?eh ?eg len (fun k => #[.int .i64 ((len - 1 - k : Nat) : Int), .pointer (some ⟨zs (len - 1 - k), 0, none⟩)]) (fun _ => rfl) (fun _ W => St w0 W 10 E B ∧ (∀ b, b < w.heap.size → W.heap[b]? = w.heap[b]?) ∧ W.cell? ⟨w.heap.size, 0, none⟩ = some (.slice ao len cap)) ?ja ?jp H0 ?hit (fun k => G [] (fup (fup (fup (fup (fup f 144 (.slice ao len cap)) 145 (.func (.func 43) #[] #[.pointer (some ⟨w.heap.size, 0, none⟩)])) 146 (.int .i64 ((len - 1 - k : Nat) : Int))) 147 (.pointer (some ⟨zs (len - 1 - k), 0, none⟩))) 21 (.pointer (some ⟨zs (len - 1 - k), 0, none⟩)))) ?asg ?bo ?dn)
  case eh => exact ((hG ds).eval _ (by omega)).trans (by simp [fup_at])
  case eg => exact enters_of Ybaz.func43 (by kernel_rfl) rfl
  case ja =>
    rintro k W o ⟨h1, h2, h3⟩
    refine ⟨h1.alloc o, fun b hb => ?_, ?_⟩
    · rw [Go.Deep.blk_alloc_lt _ _ _ ?_]
      · exact h2 b hb
      · have := h2 b hb
        rw [Array.getElem?_eq_getElem hb] at this
        exact (Array.getElem?_eq_some_iff.1 this).1
    · have hlt : w.heap.size < W.heap.size := by
        by_cases hlt : w.heap.size < W.heap.size
        · exact hlt
        · simp [World.cell?, Array.getElem?_eq_none (show W.heap.size ≤ w.heap.size by omega)] at h3
      have := Go.Deep.blk_alloc_lt W o _ hlt
      simpa [World.cell?, this] using h3
  case jp =>
    rintro k W l o o' hl ho hc ⟨h1, h2, h3⟩
    simp only [World.alloc, Array.size_push] at hl
    refine ⟨h1.putObj o' ho hc (by omega), fun b hb => ?_, ?_⟩
    · rw [World.putObj_heap_other (by omega)]; exact h2 b hb
    · have : (W.putObj l o').heap[w.heap.size]? = W.heap[w.heap.size]? := World.putObj_heap_other (by omega)
      simpa [World.cell?, this] using h3
  case hit =>
    intro l W JJ hJJ hY h0
    exact back43 (m := 8) (Bs := w.heap.size) (b := b) (off := off) zs hao hlen (fun _ W => St w0 W 10 E B ∧ (∀ b, b < w.heap.size → W.heap[b]? = w.heap[b]?) ∧ W.cell? ⟨w.heap.size, 0, none⟩ = some (.slice ao len cap)) (fun k W h => ⟨h.2.2, fun j hj => old_cell h.1.since (hcell j hj)⟩) l W JJ hJJ hY h0
  case asg =>
    intro l k W K1 hk hK1
    generalize len - 1 - k = i1 at hK1 ⊢
    generalize zs i1 = z1 at hK1 ⊢
    have HK1 : Hid (K1 _ W) := hK1
    clear hK1
    have e1 : ((⟨List.foldl (fun t (p, v) => t.setIfInBounds p v) (G ds (fup (fup f 144 (.slice ao len cap)) 145 (.func (.func 43) #[] #[.pointer (some ⟨w.heap.size, 0, none⟩)]))).tmps [(146, .int .i64 ((i1 : Nat) : Int)), (147, .pointer (some ⟨z1, 0, none⟩))], []⟩ : Act)) = G [] (fup (fup (fup (fup f 144 (.slice ao len cap)) 145 (.func (.func 43) #[] #[.pointer (some ⟨w.heap.size, 0, none⟩)])) 146 (.int .i64 ((i1 : Nat) : Int))) 147 (.pointer (some ⟨z1, 0, none⟩))) := by
      have u1 := (hG ds).up (fup (fup f 144 (.slice ao len cap)) 145 (.func (.func 43) #[] #[.pointer (some ⟨w.heap.size, 0, none⟩)])) 146 (.int .i64 ((i1 : Nat) : Int))
      have u2 := (hG ds).up (fup (fup (fup f 144 (.slice ao len cap)) 145 (.func (.func 43) #[] #[.pointer (some ⟨w.heap.size, 0, none⟩)])) 146 (.int .i64 ((i1 : Nat) : Int))) 147 (.pointer (some ⟨z1, 0, none⟩))
      rw [← hre ds [], ← congrArg Act.tmps u2, ← congrArg Act.tmps u1]
      rfl
    have hget0 := (hG []).get
    have hmk0 := (hG []).up
    refine Eq.mpr (congrArg (fun a => Code.wpIn _ _ _ _ _ a W) (Eq.trans ?_ e1)).symm.symm ?_
    · simp
    · gi_wp2
      exact HK1.out
  case bo =>
    rintro l k W hk ⟨h1, h2, h3⟩
    refine wpIn_block ?_
    refine wpIn_seq_k (fun K1 hK1 => ?_)
    refine o31 hG (sb := zs (len - 1 - k)) h1 (by omega) b1 b9 kkd hkd (by simp [fup_at, h5]) (by simp [fup_at, h18]) (by simp [fup_at]) (fun x w' x161 hS' ho' => ?_)
    refine hK1 _ _ ?_
    refine (hG []).condIn (by omega) x161 (fun h => by cases h) (fun _ => wpIn_skip ?_)
    refine ⟨keeps_of ho', hS', fun b hb => (ho' b ?_).trans (h2 b hb), ?_⟩
    · have := h2 b hb
      rw [Array.getElem?_eq_getElem hb] at this
      exact (Array.getElem?_eq_some_iff.1 this).1
    · have hlt : w.heap.size < W.heap.size := by
        by_cases hlt : w.heap.size < W.heap.size
        · exact hlt
        · simp [World.cell?, Array.getElem?_eq_none (show W.heap.size ≤ w.heap.size by omega)] at h3
      have := ho' _ hlt
      simpa [World.cell?, this] using h3
  case dn =>
    rintro D W hDs ⟨h1, h2, h3⟩ hD
    simp only [World.alloc, Array.size_push] at hDs
    rw [(hG ds).df, hre]
    exact HQ.out _ D W (fun s h1 h2 => by simp [fup_at, h1, h2]) h1 (by omega) h2 hD
end Go.Proofs.YbulkexmzaGreat
