/-
  The law's check: the blocks compared (regions 111 to 120).
-/
import Derived.Test.YbulkexmzaGreatWf
namespace Go.Proofs.YbulkexmzaGreat
open Go.RowKit
attribute [local go_sem] fup_at
theorem Lds.keep {E E' : Lab → Nat} {B B' : Lab → Option Lb} {i : Nat} {d : Fd} {AB : Nat → Bool} {x : Nat} {lv ov nv : Value} {iv : Nat → Value} (h : Lds E B i d AB x lv ov nv iv) (he : ∀ l : Lab, l.1 < 45 → E' l = E l) (hb : ∀ l : Lab, l.1 < 45 → B' l = B l) : Lds E' B' i d AB x lv ov nv iv := by
  have q20 : qi E' i = qi E i := by
    funext l t u
    unfold qi xp
    have : ∀ a b, E' (20, i, a, b) = E (20, i, a, b) := fun a b => he _ (by simp)
    simp only [this]
  refine ⟨?_, ?_, ?_, fun k hk => ?_⟩
  · obtain ⟨c, h1⟩ := h.l41
    exact ⟨c, h1.congr (he _ (by simp)) (hb _ (by simp))⟩
  · obtain ⟨c, h1⟩ := h.l42
    exact ⟨c, h1.congr (he _ (by simp)) (hb _ (by simp))⟩
  · obtain ⟨c, h1⟩ := h.l43
    exact ⟨c, h1.congr (he _ (by simp)) (hb _ (by simp))⟩
  · obtain ⟨c, h1⟩ := h.l44 k hk
    rw [q20]
    exact ⟨c, h1.congr (he _ (by simp)) (hb _ (by simp))⟩
/-- Two slices of the same instructions are equal. -/
theorem eqi_of {w0 w : World} {E : Lab → Nat} {B : Lab → Option Lb} {i : Nat} {l : List (Nat × Nat)} {ka kb : Lab} {ca cb : Nat} {a b : Option Addr} {c c' : Nat} (hS : Sg w0 w E B) (ha : Slg E B ka 50 l.length ca (qi E i l) (.slice a l.length c)) (hb : Slg E B kb 50 l.length cb (qi E i l) (.slice b l.length c')) (hl : l.length ≤ 1000000) (q : Nat) :
    Calls Ybaz.prog 5 #[.slice a l.length c, .slice b l.length c'] (w.drew.drewN q) fun e w' => e = .returned (.bool true) ∧ ∃ k, w' = (w.drew.drewN q).drewN k := by
  obtain ⟨a1, c1, e1, _, h1⟩ := ha.form
  obtain ⟨b1, c2, e2, _, h2⟩ := hb.form
  injection e1 with e1 _ _
  injection e2 with e2 _ _
  subst e1 e2
  refine eqi_any (ga := E ka) (gb := E kb) (p := fun j => ⟨E (20, i, (l.getD j (0, 0)).1, (l.getD j (0, 0)).2), 0, none⟩) h1 h2 (fun j hj => ?_) hl
  have hg : l[j]? = some (l.getD j (0, 0)) := by rw [List.getD_eq_getElem?_getD, List.getElem?_eq_getElem hj]; rfl
  obtain ⟨u, p1, ⟨bt, p2, p3⟩, _⟩ := ha.cell hS hj
  obtain ⟨u', q1, ⟨bt', q2, q3⟩, _⟩ := hb.cell hS hj
  rw [hg] at p2 q2
  cases p2
  cases q2
  rw [p3] at p1
  rw [q3] at q1
  exact ⟨p1, q1⟩
set_option maxRecDepth 100000 in
theorem wr118 {s : Nat} (hs : s < 473) : wrF (opsL (Ybaz.f3.body.bind (regAt 118))) 0 s = none := by
  have h : (List.range 473).all (fun s => (wrF (opsL (Ybaz.f3.body.bind (regAt 118))) 0 s).isNone) = true := by kernel_rfl
  have := List.all_eq_true.1 h s (List.mem_range.2 hs)
  simpa using this
set_option maxHeartbeats 4000000 in
set_option maxRecDepth 100000 in
theorem c111 {F : (Nat → Value) → Act} (hF : Fr 559 F) {X : Ain} (hX : Aok X) {w0 w : World} {E : Lab → Nat} {B : Lab → Option Lb} {al want : ByteArray} {fv : Value} {i : Nat} {AB : Nat → Bool} {lv ov nv : Value} {iv : Nat → Value} {f : Nat → Value} {Q : Exit → Act → World → Prop} (hi : i < X.N) (hAB : AB = X.pin.ab want i)
    (hC : Chk w0 w E B X al want fv) (hL : Lds E B i (X.fd i) AB (X.fd i).n lv ov nv iv)
    (h13 : f 13 = .slice (some ⟨E (0, 3, 0, 0), 0, none⟩) X.N X.N) (h33 : f 33 = .int .i64 (i : Nat)) (h34 : f 34 = .pointer (some ⟨E (1, i, 0, 0), 0, none⟩)) (h36 : f 36 = .slice (some ⟨E (3, i, 0, 0), 0, none⟩) (X.n i) (X.n i)) (h41 : f 41 = lv) (h42 : f 42 = ov) (h43 : f 43 = nv)
    (hQ : ∀ y w' E' B', (∀ s, s < 473 → s < 47 ∨ 49 < s → y s = f s) → Sg w0 w' E' B' → (∀ l : Lab, l.1 < 45 → E' l = E l) → (∀ l : Lab, l.1 < 45 → B' l = B l) → Q .normal (F y) w') :
    (((Ybaz.f3.body.bind (codeAt 111)).getD .skip)).wp Ybaz.prog Q (F f) w := by
  conv => arg 2; whnf
  have hget := hF.get
  have hmk := hF.up
  have HQ : Hid _ := hQ
  have HX : Hid (Aok X) := hX
  have HC : Hid (Chk w0 w E B X al want fv) := hC
  have HL : Hid (Lds E B i (X.fd i) AB (X.fd i).n lv ov nv iv) := hL
  have HAB : Hid (AB = X.pin.ab want i) := hAB
  have hnm := hX.n_le hi
  have hNm := hX.N
  have hn1 := X.n_pos i
  have hA0 : AB 0 = false := by rw [hAB]; exact abs_zero _ _ _
  have hn : (X.fd i).n = X.n i := rfl
  rw [hn] at HL
  obtain ⟨m, hm⟩ : ∃ m, m = gm AB (X.n i) := ⟨_, rfl⟩
  have HM : Hid (m = gm AB (X.n i)) := hm
  have hml : m ≤ X.n i := by rw [hm]; exact gm_le _
  have hmp : 0 < m := by rw [hm]; exact gm_pos hA0 hn1
  have hln : ∃ la lc, lv = .slice la m lc := by
    obtain ⟨cap, h⟩ := HL.out.l41
    obtain ⟨la, lc, h1, _⟩ := h.form
    exact ⟨la, lc, by rw [h1, hm]⟩
  obtain ⟨la, lc, hlv⟩ := hln
  have HLV : Hid (lv = .slice la m lc) := hlv
  rw [hlv] at h41
  clear hQ hX hC hL hAB hn hm hlv
  refine wp_seq_hid (fun K HK => ?_)
  go_wp2
  refine HK.out _ _ ?_
  clear HK
  refine wp_block ?_
  refine wp_loop_ghost_k (fun g a w => ∃ y, a = F y ∧ ∃ k E' B', g + k = m ∧ (∀ s, s < 473 → s < 47 ∨ 49 < s → y s = f s) ∧ y 474 = .int .i64 (m : Nat) ∧ y 475 = .int .i64 (k : Nat) ∧ Sg w0 w E' B' ∧ (∀ l : Lab, l.1 < 45 → E' l = E l) ∧ (∀ l : Lab, l.1 < 45 → B' l = B l)) m
    ⟨_, rfl, 0, E, B, rfl, fun s hs _ => by
      simp only [fup_at]
      repeat rw [if_neg (by omega)], by simp [fup_at], by simp [fup_at], HC.out.sg, fun _ _ => rfl, fun _ _ => rfl⟩ ?_
  rintro g _ w1 ⟨y, rfl, k, E', B', hg, hy, y474, y475, hS, hE, hB⟩ J K3 hJk hK3
  have HJk : Hid (∀ g a w, (∃ y, a = F y ∧ ∃ k E' B', g + k = m ∧ (∀ s, s < 473 → s < 47 ∨ 49 < s → y s = f s) ∧ y 474 = .int .i64 (m : Nat) ∧ y 475 = .int .i64 (k : Nat) ∧ Sg w0 w E' B' ∧ (∀ l : Lab, l.1 < 45 → E' l = E l) ∧ (∀ l : Lab, l.1 < 45 → B' l = B l)) → J g a w) := hJk
  have HK3 : Hid (∀ a' w', Handed J g a' w' → K3 a' w') := hK3
  have HS : Hid (Sg w0 w1 E' B') := hS
  have HE : Hid (∀ l : Lab, l.1 < 45 → E' l = E l) := hE
  have HB : Hid (∀ l : Lab, l.1 < 45 → B' l = B l) := hB
  have HY : Hid (∀ s, s < 473 → s < 47 ∨ 49 < s → y s = f s) := hy
  clear hJk hK3 hS hE hB hy
  refine wp_seq_hid (fun K4 HK4 => ?_)
  go_wp2
  refine HK4.out _ _ ?_
  clear HK4
  refine wp_seq_hid (fun K4 HK4 => ?_)
  refine hF.cond (by omega) rfl (fun hh => ?_) (fun hh => ?_)
  · have hk : k < m := by simpa using hh
    clear hh
    go_wp2
    refine HK4.out _ _ ?_
    clear HK4
    have hC := HC.out.keep HS.out (fun l hl => HE.out l (by omega)) (fun l hl => HB.out l (by omega))
    have hL := HL.out.keep HE.out HB.out
    have hkg : k < gm AB (X.fd i).n := by show k < gm AB (X.n i); rw [← HM.out]; exact hk
    have hdn := hC.dn i hi
    rw [← HAB.out] at hdn
    obtain ⟨j, hj⟩ : ∃ j, j = gd AB (X.n i) k := ⟨_, rfl⟩
    obtain ⟨e, he⟩ : ∃ e, e = en AB (X.n i) j := ⟨_, rfl⟩
    have hjn : j < X.n i := by rw [hj]; exact gd_lt hkg
    have hen : e < X.n i := by rw [he]; exact en_lt hjn
    have hje : j ≤ e := by rw [he]; exact en_ge _ _
    have y13 : y 13 = .slice (some ⟨E' (0, 3, 0, 0), 0, none⟩) X.N X.N := by rw [HE.out _ (by simp), HY.out 13 (by omega) (by omega)]; exact h13
    have y33 := (HY.out 33 (by omega) (by omega)).trans h33
    have y34 : y 34 = .pointer (some ⟨E' (1, i, 0, 0), 0, none⟩) := by rw [HE.out _ (by simp), HY.out 34 (by omega) (by omega)]; exact h34
    have y36 : y 36 = .slice (some ⟨E' (3, i, 0, 0), 0, none⟩) (X.n i) (X.n i) := by rw [HE.out _ (by simp), HY.out 36 (by omega) (by omega)]; exact h36
    have y41 := (HY.out 41 (by omega) (by omega)).trans h41
    have y42 := (HY.out 42 (by omega) (by omega)).trans h42
    have y43 := (HY.out 43 (by omega) (by omega)).trans h43
    -- f.Blocks
    obtain ⟨bl, cap, lb, hfn, hbl, hblb, hlbn, hlbp⟩ := hdn.fn
    have hmg : gm AB (X.fd i).n = m := HM.out.symm
    rw [hmg] at hfn hlbn hlbp
    obtain ⟨nf, Df, hnf, hfb, hfr⟩ := hfn.mem
    have k11 : w1.cell? ⟨E' (1, i, 0, 0), 11, none⟩ = some (.slice (some ⟨E' bl, 0, none⟩) m cap) := by
      rw [HS.out.val hfb hnf, hfr.2.2.2.2.2]
    have kbl : w1.cell? ⟨E' bl, k, none⟩ = some (.pointer (some ⟨E' (10, i, j, 0), 0, none⟩)) := by
      obtain ⟨u, h1, h2⟩ := HS.out.read hblb (i := k) (by omega)
      rw [h1, hlbp k u hk h2, hj]; rfl
    -- the block
    have hbk := hdn.blk k hkg
    have hbk' : BlkOk E' E' B' i (X.fd i) j k e := by rw [he, hj]; exact hbk
    obtain ⟨D, sv, bcap, d1, d2, d3, d4, d5, d6, d7, d8⟩ := hbk'.mem
    have kb0 := HS.out.val d1 (i := 0) (by omega)
    have kb3 := HS.out.val d1 (i := 3) (by omega)
    rw [d2] at kb0
    rw [d5] at kb3
    -- ptrs
    obtain ⟨pv, hg3, hpv⟩ := hC.g3
    obtain ⟨pcap, hps⟩ := hpv i hi
    obtain ⟨pa, pc, hpf, hpc, hpa⟩ := hps.form
    have kpt : w1.cell? ⟨E' (0, 3, 0, 0), i, none⟩ = some (.slice (some ⟨E' (5, i, 0, 0), 0, none⟩) (X.n i) pc) := by
      rw [HS.out.val hg3 hi, hpf, hpa (by omega)]
    have kpj : w1.cell? ⟨E' (5, i, 0, 0), j, none⟩ = some (.pointer (some ⟨E' (10, i, j, 0), 0, none⟩)) := by
      obtain ⟨u, h1, h2, _⟩ := hps.cell HS.out hjn
      rw [h1, h2]
    -- leaders, lastOf, ins
    obtain ⟨cap1, hl1⟩ := hL.l41
    obtain ⟨cap2, hl2⟩ := hL.l42
    obtain ⟨cap3, hl3⟩ := hL.l43
    rw [← HM.out] at hl1 hl2 hl3
    have hla : la = some ⟨E' (41, 0, 0, 0), 0, none⟩ := by
      obtain ⟨a, c, h1, _, h2⟩ := hl1.form
      rw [HLV.out] at h1
      injection h1 with h1 _ _
      rw [h1]; exact h2 hmp
    obtain ⟨hov, _⟩ : ov = .slice (some ⟨E' (42, 0, 0, 0), 0, none⟩) m cap2 ∧ True := by
      rcases hl2 with ⟨_, h⟩ | h
      · omega
      · exact ⟨h.1, trivial⟩
    obtain ⟨hnv, _⟩ : nv = .slice (some ⟨E' (43, 0, 0, 0), 0, none⟩) m cap3 ∧ True := by
      rcases hl3 with ⟨_, h⟩ | h
      · omega
      · exact ⟨h.1, trivial⟩
    have kl : w1.cell? ⟨E' (41, 0, 0, 0), k, none⟩ = some (.int .i64 (j : Nat)) := by
      obtain ⟨u, h1, h2, _⟩ := hl1.cell HS.out hk
      rw [h1, h2, hj]
    have ko : w1.cell? ⟨E' (42, 0, 0, 0), k, none⟩ = some (.int .i64 (e : Nat)) := by
      obtain ⟨u, h1, h2, _⟩ := hl2.cell HS.out hk
      rw [h1, h2, he, hj]
    have kn : w1.cell? ⟨E' (43, 0, 0, 0), k, none⟩ = some (iv k) := by
      obtain ⟨u, h1, h2, _⟩ := hl3.cell HS.out hk
      rw [h1, h2]
    rw [hla] at y41
    rw [hov] at y42
    rw [hnv] at y43
    have hq40 : ∀ w, (binOp .neq 40 (.pointer (some ⟨E' (10, i, j, 0), 0, none⟩)) (.pointer (some ⟨E' (10, i, j, 0), 0, none⟩))).run Ybaz.prog w = .ok (.bool false) w := fun w => nq40 w _
    have HSN := hC.sn i hi
    have HFX := hC.fx i hi
    have HIV := hL.l44 k hkg
    have HD8 : Hid (Slg E' B' (11, i, j, 0) 50 (cat (X.fd i).ki j e).length bcap (qi E' i (cat (X.fd i).ki j e)) sv) := d8
    have HD : Hid (B' (10, i, j, 0) = some (vals 45 6 D) ∧ D 1 = sv ∧ D 2 = .int .u8 ((X.fd i).kd e : Nat) ∧ D 4 = suv E' i (X.fd i) e ∧ D 5 = .int .i64 ((X.fd i).ps e : Nat)) := ⟨d1, d3, d4, d6, d7⟩
    have HSNh : Hid (Snap E' B' i (X.fd i)) := HSN
    have HFXh : Hid (Fx E' B' i (X.fd i)) := HFX
    have HIVh : Hid (∃ cap, Slg E' B' (44, 0, k, 0) 50 (cat (X.fd i).ki j e).length cap (qi E' i (cat (X.fd i).ki j e)) (iv k)) := by
      show _
      rw [he, hj]; exact HIV
    have HKN : Hid (w1.cell? ⟨E' (43, 0, 0, 0), k, none⟩ = some (iv k)) := kn
    clear hC hL hdn hfn hblb hlbp hfb hfr hbk hbk' d1 d2 d3 d4 d5 d6 d7 d8 hg3 hpv hps hpf hpa hl1 hl2 hl3 HSN HFX HIV kn hla hov hnv he hj hbl hmg hlbn
    refine wp_seq_hid (fun K4 HK4 => ?_)
    refine wp_block ?_
    refine wp_seq_hid (fun K5 HK5 => ?_)
    go_wp2
    refine HK5.out _ _ ?_
    clear HK5
    refine wp_seq_hid (fun K5 HK5 => ?_)
    go_wp2
    refine HK5.out _ _ ?_
    clear HK5 k11 kbl
    refine wp_seq_hid (fun K5 HK5 => ?_)
    refine wp_seq_hid (fun K6 HK6 => ?_)
    go_still (by kernel_rfl)
    refine HK6.out _ _ ?_
    clear HK6 kb0 kb3 kpt kpj kl hq40
    refine hF.cond (by omega) rfl (fun hh => by simp at hh) (fun hh => ?_)
    clear hh
    show Code.wp _ _ _ _ w1.drew
    have HS2 : Hid (Sg w0 w1.drew E' B') := HS.out.drew
    have ko : w1.drew.cell? ⟨E' (42, 0, 0, 0), k, none⟩ = some (.int .i64 (e : Nat)) := ko
    have HKN2 : Hid (w1.drew.cell? ⟨E' (43, 0, 0, 0), k, none⟩ = some (iv k)) := HKN.out
    clear HKN HS
    generalize w1.drew = w2 at HS2 ko HKN2 ⊢
    go_wp2
    refine HK5.out _ _ ?_
    clear HK5
    obtain ⟨Ds, hs3, hsnb⟩ := HSNh.out.s3
    have hsn := hsnb e hen
    have hen' : e * 6 + 5 < X.n i * 6 := by omega
    have r0 := HS2.out.val hs3 (i := e * 6) (by show _ < X.n i * 6; omega)
    have r1 := HS2.out.val hs3 (i := e * 6 + 1) (by show _ < X.n i * 6; omega)
    have r2 := HS2.out.val hs3 (i := e * 6 + 2) (by show _ < X.n i * 6; omega)
    have r3 := HS2.out.val hs3 (i := e * 6 + 3) (by show _ < X.n i * 6; omega)
    have r4 := HS2.out.val hs3 (i := e * 6 + 4) (by show _ < X.n i * 6; omega)
    have r5 := HS2.out.val hs3 (i := e * 6 + 5) (by show _ < X.n i * 6; omega)
    obtain ⟨icap, hiv⟩ := hsn.iv
    obtain ⟨xa, xc, hxf, _, _⟩ := hiv.form
    obtain ⟨ucap, l, huv, hl⟩ := hsn.uv
    obtain ⟨ta, tc, htf, _, hta⟩ := huv.form
    rw [hsn.id0] at r0
    rw [hxf] at r1
    rw [hsn.kd] at r2
    rw [hsn.co3] at r3
    rw [htf] at r4
    rw [hsn.ps] at r5
    rw [htf] at huv
    have HUV : Hid (Slg E' B' (14, i, e, 0) 40 l ucap (fun _ u => ∃ t, (X.fd i).tg e = some t ∧ u = .pointer (some ⟨E' (10, i, t, 0), 0, none⟩)) (.slice ta l tc)) := huv
    have HTA : Hid (0 < l → ta = some ⟨E' (14, i, e, 0), 0, none⟩) := hta
    have HLl : Hid (l = if (X.fd i).tg e = none then 0 else 1) := hl
    clear hsn hsnb hs3 hiv huv hl hxf htf hta hen'
    refine wp_seq_hid (fun K5 HK5 => ?_)
    go_wp2
    refine HK5.out _ _ ?_
    clear HK5 r0 r1 r2 r3 r4 r5 ko
    have hS3 := HS2.out.newA #[.int .i64 (e : Nat), .slice xa ((X.fd i).ki e) xc, .int .u8 ((X.fd i).kd e : Nat), .pointer none, .slice ta l tc, .int .i64 ((X.fd i).ps e : Nat)] 45 (45, 0, 0, 0) (n := 6) rfl
    obtain ⟨E3, hE3⟩ : ∃ E3, E3 = lup E' (45, 0, 0, 0) w2.heap.size := ⟨_, rfl⟩
    obtain ⟨B3, hB3⟩ : ∃ B3, B3 = lup B' (45, 0, 0, 0) (some (vals 45 6 (litv #[.int .i64 (e : Nat), .slice xa ((X.fd i).ki e) xc, .int .u8 ((X.fd i).kd e : Nat), .pointer none, .slice ta l tc, .int .i64 ((X.fd i).ps e : Nat)]))) := ⟨_, rfl⟩
    have e45 : w2.heap.size = E3 (45, 0, 0, 0) := by rw [hE3, lup_same]
    rw [← hE3, ← hB3] at hS3
    rw [e45]
    have b45 : B3 (45, 0, 0, 0) = some (vals 45 6 (litv #[.int .i64 (e : Nat), .slice xa ((X.fd i).ki e) xc, .int .u8 ((X.fd i).kd e : Nat), .pointer none, .slice ta l tc, .int .i64 ((X.fd i).ps e : Nat)])) := by rw [hB3, lup_same]
    have o3 : ∀ l : Lab, l.1 < 45 → E3 l = E' l := fun l hl => by rw [hE3, lup_other _ _ (fun h => by subst h; simp at hl)]
    have p3 : ∀ l : Lab, l.1 < 45 → B3 l = B' l := fun l hl => by rw [hB3, lup_other _ _ (fun h => by subst h; simp at hl)]
    have kn3 : (w2.alloc (.cells #[.int .i64 (e : Nat), .slice xa ((X.fd i).ki e) xc, .int .u8 ((X.fd i).kd e : Nat), .pointer none, .slice ta l tc, .int .i64 ((X.fd i).ps e : Nat)] 45)).cell? ⟨E' (43, 0, 0, 0), k, none⟩ = some (iv k) := by
      have h1 := World.block_lt_of_cell? _ _ HKN2.out
      rw [← HKN2.out]
      have := Go.Deep.blk_alloc_lt w2 (.cells #[.int .i64 (e : Nat), .slice xa ((X.fd i).ki e) xc, .int .u8 ((X.fd i).kd e : Nat), .pointer none, .slice ta l tc, .int .i64 ((X.fd i).ps e : Nat)] 45) _ h1
      simp only [World.cell?, this]
    clear hE3 hB3 e45 HKN2 HS2
    generalize w2.alloc (.cells #[.int .i64 (e : Nat), .slice xa ((X.fd i).ki e) xc, .int .u8 ((X.fd i).kd e : Nat), .pointer none, .slice ta l tc, .int .i64 ((X.fd i).ps e : Nat)] 45) = w3 at hS3 kn3 ⊢
    have q20 : qi E3 i = qi E' i := by
      funext l t u
      unfold qi xp
      have : ∀ a b, E3 (20, i, a, b) = E' (20, i, a, b) := fun a b => o3 _ (by simp)
      simp only [this]
    obtain ⟨ivcap, hivs⟩ := HIVh.out
    obtain ⟨ja, jc, hjf, _, _⟩ := hivs.form
    obtain ⟨ia, ic, hif, _, _⟩ := HD8.out.form
    have s1 : Slg E3 B3 (11, i, j, 0) 50 (cat (X.fd i).ki j e).length bcap (qi E3 i (cat (X.fd i).ki j e)) (.slice ia (cat (X.fd i).ki j e).length ic) := by rw [q20, ← hif]; exact HD8.out.congr (o3 _ (by simp)) (p3 _ (by simp))
    have s2 : Slg E3 B3 (44, 0, k, 0) 50 (cat (X.fd i).ki j e).length ivcap (qi E3 i (cat (X.fd i).ki j e)) (.slice ja (cat (X.fd i).ki j e).length jc) := by rw [q20, ← hjf]; exact hivs.congr (o3 _ (by simp)) (p3 _ (by simp))
    have hcl := cat_len (X.fd i).ki (HX.out.fdk hi).ki hje
    have b10 : B3 (10, i, j, 0) = some (vals 45 6 D) := (p3 _ (by simp)).trans HD.out.1
    have v10 : E3 (10, i, j, 0) = E' (10, i, j, 0) := o3 _ (by simp)
    have k1 := hS3.val b10 (i := 1) (by omega)
    have k2 := hS3.val b10 (i := 2) (by omega)
    have k4 := hS3.val b10 (i := 4) (by omega)
    have k5 := hS3.val b10 (i := 5) (by omega)
    rw [HD.out.2.1, hif] at k1
    rw [HD.out.2.2.1] at k2
    rw [HD.out.2.2.2.1] at k4
    rw [HD.out.2.2.2.2] at k5
    rw [v10] at k1 k2 k4 k5
    have l2 : w3.cell? ⟨E3 (45, 0, 0, 0), 2, none⟩ = some (.int .u8 ((X.fd i).kd e : Nat)) := hS3.val b45 (i := 2) (by omega)
    have l4 : w3.cell? ⟨E3 (45, 0, 0, 0), 4, none⟩ = some (.slice ta l tc) := hS3.val b45 (i := 4) (by omega)
    have l5 : w3.cell? ⟨E3 (45, 0, 0, 0), 5, none⟩ = some (.int .i64 ((X.fd i).ps e : Nat)) := hS3.val b45 (i := 5) (by omega)
    rw [hjf] at kn3
    obtain ⟨sa, sc, hsu, hc6⟩ : ∃ sa sc, suv E' i (X.fd i) e = .slice sa l sc ∧ ∀ q, Calls Ybaz.prog 6 #[.slice sa l sc, .slice ta l tc] (w3.drew.drewN q) fun e w' => e = .returned (.bool true) ∧ ∃ k, w' = (w3.drew.drewN q).drewN k := by
      have hl := HLl.out
      cases ht : (X.fd i).tg e with
      | none =>
        rw [ht, if_pos rfl] at hl
        subst hl
        refine ⟨none, 0, by unfold suv; rw [ht], fun q => ?_⟩
        exact eqb_any (ga := 0) (gb := 0) (p := fun _ => ⟨0, 0, none⟩) (fun h => absurd h (Nat.lt_irrefl _)) (fun h => absurd h (Nat.lt_irrefl _)) (fun j hj => absurd hj (Nat.not_lt_zero _)) (by omega)
      | some t =>
        rw [ht, if_neg (by simp)] at hl
        subst hl
        have h12 := hS3.val ((p3 (12, i, e, 0) (by simp)).trans (HFXh.out.su e t hen ht)) (i := 0) (by omega)
        have s14 : Slg E3 B3 (14, i, e, 0) 40 1 ucap (fun _ u => ∃ t, (X.fd i).tg e = some t ∧ u = .pointer (some ⟨E' (10, i, t, 0), 0, none⟩)) (.slice ta 1 tc) := HUV.out.congr (o3 _ (by simp)) (p3 _ (by simp))
        obtain ⟨u, h14, ⟨t', ht', hu⟩, _⟩ := s14.cell hS3 (i := 0) (by omega)
        rw [ht] at ht'
        cases ht'
        rw [hu] at h14
        rw [o3 _ (by simp)] at h12 h14
        refine ⟨some ⟨E' (12, i, e, 0), 0, none⟩, 1, by unfold suv; rw [ht], fun q => ?_⟩
        refine eqb_any (ga := E' (12, i, e, 0)) (gb := E' (14, i, e, 0)) (p := fun _ => ⟨E' (10, i, t, 0), 0, none⟩) (fun _ => rfl) (fun _ => HTA.out (by omega)) (fun j hj => ?_) (by omega)
        obtain rfl : j = 0 := by omega
        exact ⟨h12, h14⟩
    rw [hsu] at k4
    refine wp_seq_hid (fun K6 HK6 => ?_)
    refine c118 hF (kk := k) (M := m) (vb := E' (43, 0, 0, 0)) (c43 := cap3) hk k1 k2 k4 k5 l2 l4 l5 kn3 (fun q => eqi_of hS3 s1 s2 (by omega) q) hc6 (by simp [fup_at, y43]) (by simp [fup_at]) (by simp [fup_at]) (by simp [fup_at]) ?_
    intro y6 q hy6 y556
    refine HK6.out _ _ ?_
    clear HK6
    refine hF.cond (by omega) y556 (fun hh => by simp at hh) (fun hh => ?_)
    clear hh
    have z474 : y6 474 = .int .i64 (m : Nat) := (hy6 474 (by omega) (by kernel_rfl)).trans (by simp [fup_at, y474])
    have z475 : y6 475 = .int .i64 (k : Nat) := (hy6 475 (by omega) (by kernel_rfl)).trans (by simp [fup_at, y475])
    have HY6 : Hid (∀ s, s < 473 → s < 47 ∨ 49 < s → y6 s = f s) := fun s h1 h2 => by
      rw [hy6 s (by omega) (wr118 h1)]
      simp only [fup_at]; repeat rw [if_neg (by omega)]
      exact HY.out s h1 h2
    have HS4 : Hid (Sg w0 (w3.drewN q) E3 B3) := hS3.drewN q
    have HO3 : Hid ((∀ l : Lab, l.1 < 45 → E3 l = E' l) ∧ ∀ l : Lab, l.1 < 45 → B3 l = B' l) := ⟨o3, p3⟩
    clear hy6 y556 k1 k2 k4 k5 l2 l4 l5 kn3 hc6 s1 s2 hS3 o3 p3 b10 b45 q20
    generalize w3.drewN q = w4 at HS4 ⊢
    go_wp2
    refine HK4.out _ _ ?_
    clear HK4
    go_wp2
    refine HK3.out _ _ ⟨g - 1, by omega, HJk.out _ _ _ ⟨_, rfl, k + 1, E3, B3, by omega, fun s h1 h2 => ?_, by simp [fup_at, z474], by simp [fup_at], HS4.out, fun l hl => (HO3.out.1 l hl).trans (HE.out l hl), fun l hl => (HO3.out.2 l hl).trans (HB.out l hl)⟩⟩
    simp only [fup_at]; repeat rw [if_neg (by omega)]
    exact HY6.out s h1 h2
  · have hk : k = m := by
      have : ¬ k < m := by simpa using hh
      omega
    subst hk
    clear hh HK3 HJk HK4
    go_wp2
    refine HQ.out _ _ E' B' (fun s h1 h2 => ?_) HS.out HE.out HB.out
    simp only [fup_at]; repeat rw [if_neg (by omega)]
    exact HY.out s h1 h2
end Go.Proofs.YbulkexmzaGreat
