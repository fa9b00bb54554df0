/-
  sink.order (11): from region 12 on.
-/
import Derived.Test.YbulkexmzaGreatOg
namespace Go.Proofs.YbulkexmzaGreat
open Go.RowKit Go.Shelf
attribute [local go_sem] Oper.semAt_some fup_at

theorem leaves_marks {P : Program} {fn : Func} {tmps : Array Value} {R : Ending → World → Prop} {v : Value} {t n : Nat} (hr : fn.results = #[.tmp t]) (hv : tmps.getD t undef = v) (b0 : Nat) (I : World → Prop)
    (hI : ∀ w D, I w → b0 ≤ D → w.heap[D]? = some (.deferred (some [])) → I (w.putObj D (.deferred none))) (hR : ∀ w, I w → R (.returned v) w) :
    ∀ (Ds : List Nat) (w : World), Ds.Nodup → (∀ D ∈ Ds, b0 ≤ D ∧ w.heap[D]? = some (.deferred (some []))) → I w → LeavesInM Fence.wide n P fn tmps R (Ds.map mkr) .returning w
  | [], w, _, _, h => ⟨_, results_tmp hr _ _ _, by rw [hv]; exact hR w h⟩
  | D :: Ds, w, hn, hD, h => by
    obtain ⟨h1, h2⟩ := List.nodup_cons.1 hn
    obtain ⟨h3, h4⟩ := hD D (List.mem_cons_self ..)
    refine ⟨by simp, .inl ⟨D, _, rfl, run_takeDeferred h4, leaves_marks hr hv b0 I hI hR Ds _ h2 (fun D' hD' => ?_) (hI w D h h3 h4)⟩⟩
    obtain ⟨h5, h6⟩ := hD D' (List.mem_cons_of_mem _ hD')
    refine ⟨h5, ?_⟩
    rw [World.putObj_heap_other (fun e => h1 (by rw [← e]; exact hD'))]
    exact h6
theorem mty39 : Mty 39 40 (.pointer none) := ⟨Ybaz.underlying39, ⟨8, by kernel_rfl, by omega⟩, rfl⟩

set_option maxHeartbeats 4000000 in
set_option maxRecDepth 100000 in
theorem o20 {G : List Deferred → (Nat → Value) → Act} (hG : ∀ ds, Frd 175 ds (G ds)) (hre : ∀ ds ds' f, (⟨(G ds f).tmps, ds'⟩ : Act) = G ds' f) {ds : List Deferred} {w0 w : World} {E : Nat → Nat} {B : Nat → Lb} {n fb i len K0 bb bo bc : Nat} {bk kd : Nat → Nat} {sc : Nat → Option Nat} {v sv : Value} {f : Nat → Value} {bl : Bool} {Q : Exit → Act → World → Prop}
    (hC : Cfg w0 fb n bk sc) (hkc : ∀ k, k < n → w0.cell? ⟨bk k, 2, none⟩ = some (.int .u8 (kd k : Nat)) ∧ kd k ≠ 1) (hi : i < n) (hn : n ≤ 100000) (hlen : len ≤ 1000000)
    (hO : Osd w0 w E B n bk ds len v sv K0) (hF : Osf f E fb n) (h11 : f 11 = v) (h15 : f 15 = .bool bl) (h89 : f 89 = .slice (some ⟨bb, bo, none⟩) n bc) (h91 : f 91 = .int .i64 (i : Nat)) (hblk : w0.cell? ⟨bb, bo + i, none⟩ = some (.pointer (some ⟨bk i, 0, none⟩)))
    (hQ : ∀ x w' E' B' ds' len' v' sv' K', (∀ s, s ≠ 11 → s ≠ 17 → s ≠ 18 → s ≠ 19 → s ≠ 91 → s < 92 → x s = f s) → x 91 = .int .i64 ((i + 1 : Nat) : Int) → (∀ k, k < 8 → k ≠ 3 → E' k = E k) → x 11 = v' → len' ≤ len + 1 → Osd w0 w' E' B' n bk ds' len' v' sv' K' → Q .normal (G ds' x) w') :
    ((Ybaz.f11.body.bind (codeAt 20)).getD .skip).wp Ybaz.prog Q (G ds f) w := by
  conv => arg 2; whnf
  have hget := (hG ds).get
  have hmk := (hG ds).up
  have HQ : Hid (∀ x w' E' B' ds' len' v' sv' K', (∀ s, s ≠ 11 → s ≠ 17 → s ≠ 18 → s ≠ 19 → s ≠ 91 → s < 92 → x s = f s) → x 91 = .int .i64 ((i + 1 : Nat) : Int) → (∀ k, k < 8 → k ≠ 3 → E' k = E k) → x 11 = v' → len' ≤ len + 1 → Osd w0 w' E' B' n bk ds' len' v' sv' K' → Q .normal (G ds' x) w') := hQ
  have HO : Hid (Osd w0 w E B n bk ds len v sv K0) := hO
  have HF : Hid (Osf f E fb n) := hF
  have h12 := hF.f12
  have h6 := hF.f6
  have kb := old_cell hO.st.since hblk
  have kid := old_cell hO.st.since (hC.id i hi)
  have hK8 := hO.k8
  have k5 := hO.st.box (k := 5) (by omega) hO.b5
  obtain ⟨u, ku, ⟨sn, rfl⟩⟩ : ∃ u, w.cell? ⟨E 4, i, none⟩ = some u ∧ boolAt i u := by
    have := hO.st.read 4 (by omega) (i := i) (by rw [hO.b4]; exact hi)
    rwa [hO.b4] at this
  have kuf := hO.st.frz 4 (by omega) i
  have k2 := zrow_cell (by have := hO.st.row 2 (by omega); rw [hO.b2] at this; exact this) hi
  have hiz : (i : Int) < (n : Int) := by omega
  clear hQ hO hF
  refine wp_seq_hid (fun K9 HK9 => ?_)
  refine wp_block ?_
  have HEND : Hid (∀ x w' E' B' ds' len' v' sv' K', (∀ s, s ≠ 11 → s ≠ 17 → s ≠ 18 → s ≠ 19 → s < 92 → x s = f s) → (∀ k, k < 8 → k ≠ 3 → E' k = E k) → x 11 = v' → len' ≤ len + 1 → Osd w0 w' E' B' n bk ds' len' v' sv' K' → K9 (G ds' x) w') := ?hend
  case hend =>
    clear kb kid k5 ku kuf k2 hget hmk
    intro x w' E' B' ds' len' v' sv' K' hx hE' x11 hl hO'
    refine HK9.out _ _ ?_
    have hget := (hG ds').get
    have hmk := (hG ds').up
    have HO' : Hid (Osd w0 w' E' B' n bk ds' len' v' sv' K') := hO'
    have Hx : Hid (∀ s, s ≠ 11 → s ≠ 17 → s ≠ 18 → s ≠ 19 → s < 92 → x s = f s) := hx
    have x91 := (hx 91 (by omega) (by omega) (by omega) (by omega) (by omega)).trans h91
    clear hO' hx HK9
    go_wp2
    exact HQ.out _ w' E' B' ds' len' v' sv' K' (fun s h1 h2 h3 h4 h5 h6 => by
      simp only [fup_at]
      repeat rw [if_neg (by omega)]
      exact Hx.out s h1 h2 h3 h4 h6) (by simp [fup_at]) hE' (by simp [fup_at, x11]) hl HO'.out
  refine wp_seq_hid (fun K HK => ?_)
  go_wp2
  refine HK.out _ _ ?_
  clear HK
  refine wp_seq_hid (fun K HK => ?_)
  refine wp_seq_hid (fun K2 HK2 => ?_)
  have HSKIP : Hid (∀ x, x 112 = .bool true → (∀ s, s ≠ 17 → s < 92 → x s = f s) → (Code.cond (.tmp 112) (Code.exit 7) Code.skip).wp Ybaz.prog (Exit.then K (Exit.inBlock 7 (Exit.then K9 Q))) (G ds x) w.drew) := ?hskip
  case hskip =>
    clear kb kid k5 ku kuf k2 hget hmk HK2 HK
    intro x hx112 hx
    refine (hG ds).cond (by omega) hx112 (fun h => ?_) (fun h => by cases h)
    clear h
    go_wp2
    refine HEND.out _ _ E B ds len v sv K0 (fun s h1 h2 h3 h4 h5 => hx s h2 h5) (fun _ _ _ => rfl) ((hx 11 (by omega) (by omega)).trans h11) (by omega) ?_
    exact ⟨HO.out.toOsb.step HO.out.st.drew (HO.out.mks.keep (fun _ _ h _ => h)) (fun _ _ _ => rfl) (fun _ _ _ _ => rfl) HO.out.b3, HO.out.b6, HO.out.stk⟩
  cases sn
  · cases bl
    · go_still (by kernel_rfl)
      go_wp2
      refine HK2.out _ _ ?_
      clear HK2 HSKIP
      refine (hG ds).cond (by omega) rfl (fun h => by cases h) (fun h => ?_)
      clear h
      go_wp2
      refine HK.out _ _ ?_
      clear HK
      have hO1 : Osd w0 w.drew E B n bk ds len v sv K0 := ⟨HO.out.toOsb.step HO.out.st.drew (HO.out.mks.keep (fun _ _ h _ => h)) (fun _ _ _ => rfl) (fun _ _ _ _ => rfl) HO.out.b3, HO.out.b6, HO.out.stk⟩
      have kid1 : w.drew.cell? ⟨bk i, 0, none⟩ = some (.int .i64 (i : Nat)) := kid
      have k51 : w.drew.cell? ⟨E 5, 0, none⟩ = some (.slice (some ⟨E 4, 0, none⟩) n n) := k5
      have ku1 : w.drew.cell? ⟨E 4, i, none⟩ = some (.bool false) := ku
      have kuf1 : w.drew.frozen? ⟨E 4, i, none⟩ = false := kuf
      clear kid k5 ku kuf k2 kb HO
      show Code.wp _ _ _ _ w.drew
      generalize w.drew = w1 at kid1 k51 ku1 kuf1 hO1 ⊢
      have HO : Hid (Osd w0 w1 E B n bk ds len v sv K0) := hO1
      clear hO1
      refine wp_seq_hid (fun K HK => ?_)
      go_still_tail 6, (by kernel_rfl)
      go_wp2
      refine HK.out _ _ ?_
      clear HK
      have hO2 : Osd w0 (w1.setCell ⟨E 4, i, none⟩ (.bool true)) E B n bk ds len v sv K0 := ⟨HO.out.toOsb.step (HO.out.st.put 4 (by omega) (by rw [HO.out.b4]; exact ⟨_, rfl⟩)) (HO.out.mks.keep (Kpo.set _ _ _)) (fun _ _ _ => rfl) (fun _ _ _ _ => rfl) HO.out.b3, HO.out.b6, HO.out.stk⟩
      have hO3 : Osd w0 (w1.setCell ⟨E 4, i, none⟩ (.bool true)).drew E B n bk ds len v sv K0 := ⟨hO2.toOsb.step hO2.st.drew (hO2.mks.keep (fun _ _ h _ => h)) (fun _ _ _ => rfl) (fun _ _ _ _ => rfl) hO2.b3, hO2.b6, hO2.stk⟩
      refine o23 hG hre hC hkc hi hlen hO3 (HF.out.keep (fun s h1 h2 => ?_) (fun _ _ _ => rfl)) (by simp [fup_at, h11]) (by simp [fup_at]) (fun x w' E' B' ds' v' sv' hx hE' x11 hO' => ?_)
      · simp only [fup_at]
        repeat rw [if_neg (by omega)]
      · refine HEND.out _ _ E' B' ds' (len + 1) v' sv' 9 (fun s h1 h2 h3 h4 h5 => ?_) hE' x11 (by omega) hO'
        rw [hx s h1 h3 h4 (by omega)]
        simp only [fup_at]
        repeat rw [if_neg (by omega)]
    · go_still (by kernel_rfl)
      go_wp2
      refine HK2.out _ _ ?_
      refine HSKIP.out _ rfl (fun s h1 h2 => ?_)
      simp only [fup_at]
      repeat rw [if_neg (by omega)]
  · go_still (by kernel_rfl)
    go_wp2
    refine HK2.out _ _ ?_
    refine HSKIP.out _ rfl (fun s h1 h2 => ?_)
    simp only [fup_at]
    repeat rw [if_neg (by omega)]
end Go.Proofs.YbulkexmzaGreat
