/-
  THE WALK over LawS194011CWhole (3).
-/
import Derived.Test.YbulkexmymTailA
import Derived.Deep.LoopGhost
import Derived.Deep.Light
import Derived.Deep.DeepCutAuto
namespace Go.Proofs.Ybulkexmym
open Go.RowKit

/-- The state at the loop's head, when r steps are done. -/
def AtHead (w0 : World) (gb r : Nat) (s10 s11 s12 s13 s14 : Value) (w : World) : Prop :=
  ∃ L ob pv C nc cv ws mv, Canon w0 w L w0.heap.size gb (.pointer none) r ob pv C nc cv ws s10 s11 s12 s13 s14 mv

set_option maxHeartbeats 1000000 in
set_option maxRecDepth 1000000 in
theorem law_any (ra : Option Addr) (rb ro G Gc : Nat) (O A : Nat → Nat) (S : Nat → ByteArray) (wn : Nat) (dd : ByteArray) (inb : Bool) (w : World) (hra : 0 < G → ra = some ⟨rb, ro, none⟩)
    (h0 : ∀ r, r < G → w.cell? ⟨rb, ro + r * 3, none⟩ = some (.int .u8 (O r)) ∧ O r < 256) (h1 : ∀ r, r < G → w.cell? ⟨rb, ro + r * 3 + 1, none⟩ = some (.int .u32 (A r)) ∧ A r < 4294967296)
    (h2 : ∀ r, r < G → w.cell? ⟨rb, ro + r * 3 + 2, none⟩ = some (.string (S r))) (hwn : wn < 4294967296) (hGb : G ≤ 140737488351232) :
    Calls Yba.prog 3 #[.slice ra G Gc, .int .u32 wn, .string dd, .bool inb] w fun e w' => e = .returned (.bool true) ∧ Below w.heap.size w w' := by
  by_cases hG1 : 65536 < G
  · have hG1z : (65536 : Int) < G := by omega
    go_enter Yba.func3, Yba.ntmps3
    go_wp2
    go_ret
    exact ⟨rfl, .refl _ _⟩
  have hG1z : ¬ (65536 : Int) < G := by omega
  have hst := start_all w
  go_enter Yba.func3, Yba.ntmps3
  go_wp2
  go_loopg [10, 11, 12, 13, 14, 35] G (fun g s10 s11 s12 s13 s14 i wr => ∃ r : Nat, r ≤ G ∧ g = G - r ∧ i = .int .i64 r ∧ AtHead w w.heap.size r s10 s11 s12 s13 s14 wr)
  case atStart => exact ⟨0, Nat.zero_le _, rfl, rfl, _, _, _, _, _, _, _, _, hst⟩
  case round =>
    clear hst
    obtain ⟨r, hr, rfl, rfl, L, ob, pv, C, nc, cv, ws, mv, hC⟩ := hrel
    by_cases hrG : r < G
    · obtain rfl := hra (by omega)
      have hrz : (r : Int) < (G : Int) := by omega
      obtain ⟨hws, hwl, hA⟩ := hC
      obtain ⟨da, dc, hd⟩ := hA.d.shape
      obtain ⟨wa, wc, hw⟩ := hA.wl.shape
      obtain ⟨oa, oc, ho⟩ := hA.o.shape
      obtain ⟨na, npc, hn⟩ := hA.p.shape
      obtain ⟨sa, sc, hs⟩ := hA.s.shape
      rw [dl_length] at hd
      rw [ids_length] at hw
      rw [ol_length] at ho
      rw [pl_length] at hn
      rw [sl_length] at hs
      subst hd hw ho hn hs
      have c0 : wr.cell? ⟨rb, ro + r * 3, none⟩ = some (.int .u8 (O r)) := by rw [hA.below.cell (World.block_lt_of_cell? _ _ (h0 r hrG).1)]; exact (h0 r hrG).1
      have c1 : wr.cell? ⟨rb, ro + r * 3 + 1, none⟩ = some (.int .u32 (A r)) := by rw [hA.below.cell (World.block_lt_of_cell? _ _ (h1 r hrG).1)]; exact (h1 r hrG).1
      have c2 : wr.cell? ⟨rb, ro + r * 3 + 2, none⟩ = some (.string (S r)) := by rw [hA.below.cell (World.block_lt_of_cell? _ _ (h2 r hrG))]; exact h2 r hrG
      have hO := (h0 r hrG).2
      have hAr := (h1 r hrG).2
      have HW : Hid (∀ x ∈ ws, x < r ∧ (ob x).whole = x ∧ (ob x).part = 0) := hws
      have HA : Hid _ := hA
      have h012 : Hid ((∀ r, r < G → w.cell? ⟨rb, ro + r * 3, none⟩ = some (.int .u8 (O r)) ∧ O r < 256) ∧ (∀ r, r < G → w.cell? ⟨rb, ro + r * 3 + 1, none⟩ = some (.int .u32 (A r)) ∧ A r < 4294967296) ∧ (∀ r, r < G → w.cell? ⟨rb, ro + r * 3 + 2, none⟩ = some (.string (S r)))) := ⟨h0, h1, h2⟩
      clear h0 h1 h2 hws hA
      generalize hOr : O r = o at *
      generalize hAr' : A r = a at *
      generalize hSr : S r = S0 at *
      clear hOr hAr' hSr
      generalize hlw : ws.length = lw at *
      have HLW : Hid (ws.length = lw) := hlw
      clear hlw
      go_upto_region 12 with fail
      have HA1 : Hid _ := HA.out.keep (T := fun _ => False) ((Keep.refl L _ wr).alloc (.cells #[.int .u8 o, .int .u32 a, .string S0] 36)) (Agree.upd wr L (17, 0) (Nat.le_refl _)) (fun _ x => x.elim)
      have p0 : (wr.alloc (.cells #[.int .u8 o, .int .u32 a, .string S0] 36)).cell? ⟨wr.heap.size, 0, none⟩ = some (.int .u8 o) := World.cell?_alloc_new wr _ _ _
      have p1 : (wr.alloc (.cells #[.int .u8 o, .int .u32 a, .string S0] 36)).cell? ⟨wr.heap.size, 1, none⟩ = some (.int .u32 a) := World.cell?_alloc_new wr _ _ _
      have p2 : (wr.alloc (.cells #[.int .u8 o, .int .u32 a, .string S0] 36)).cell? ⟨wr.heap.size, 2, none⟩ = some (.string S0) := World.cell?_alloc_new wr _ _ _
      have HL : Hid (upd L wr.heap.size (17, 0) wr.heap.size = (17, 0)) := upd_same _ _ _
      generalize upd L wr.heap.size (17, 0) = L1 at *
      generalize wr.alloc (.cells #[.int .u8 o, .int .u32 a, .string S0] 36) = w1 at *
      generalize wr.heap.size = xb at *
      clear HA c0 c1 c2
      go_cut [47] (fun s47 wx => w1 = wx ∧ ∃ bb : Bool, s47 = .bool bb ∧ (bb = false → 0 < lw))
      case first =>
        go_wp2
        · go_meet
          go_light
          exact ⟨rfl, true, rfl, fun h => by cases h⟩
        · go_meet
          go_light
          refine ⟨rfl, _, rfl, fun h => ?_⟩
          simp at h
          omega
      case rest =>
        obtain ⟨rfl, bb, rfl, hbb⟩ := hcut
        have hmax : r < 65540 := by omega
        cases bb
        · -- a part of the whole that is picked
          have hlw : 0 < lw := hbb rfl
          clear hbb p0
          have hx : a % lw < lw := Nat.mod_lt _ hlw
          have hrem := rem_nat a lw
          generalize a % lw = x at *
          have hxz : (x : Int) < (lw : Int) := by omega
          have hlz : ¬ (lw : Int) = 0 := by omega
          have hxl : x < ws.length := by rw [HLW.out]; exact hx
          obtain ⟨wg, rfl, hwc⟩ := HA1.out.wl.at (by rw [ids_length]; omega)
          obtain ⟨wi, hwi⟩ : ∃ wi, ws[x] = wi := ⟨_, rfl⟩
          have q1 : w1.cell? ⟨wg, x, none⟩ = some (.int .i32 wi) := hwc x _ (by simp [ids, hxl, hwi])
          obtain ⟨hir, hwhole, hpart⟩ := HW.out wi (by rw [← hwi]; exact List.getElem_mem hxl)
          have HWH : Hid ((ob wi).whole = wi) := hwhole
          clear hwc hwi hwhole hpart
          obtain ⟨sg, rfl, _⟩ := HA1.out.s.at (by rw [sl_length]; omega)
          obtain ⟨ma, mc, hmv⟩ := (HA1.out.m wi hir).shape
          rw [ids_length] at hmv
          obtain ⟨M, hM⟩ : ∃ M, (ob wi).parts.length = M := ⟨_, rfl⟩
          rw [hM] at hmv
          have hMr : M ≤ r := by rw [← hM]; exact HA1.out.g.pb wi hir
          have hne : ¬ wi = r := by omega
          have HM : Hid ((ob wi).parts.length = M) := hM
          have HMV : Hid (mv wi = .slice ma M mc) := hmv
          have hiz : (wi : Int) < (r : Int) := by omega
          clear hM hmv
          go_upto_region 25 with (go_at_call 5; refine (addPart_any wi (change_nil HA1.out.g wi hir) HA1.out.g hmax hir HWH.out S0).mono ?_; rintro e w2 ⟨rfl, hAd⟩)
          obtain ⟨L2, C2, nc2, cv2, pv2, hG, hI, _⟩ := hAd
          have p3 : w2.cell? ⟨xb, 2, none⟩ = some (.string S0) := hG.keep.cell_of p2 (by rw [HL.out]; exact fun x => by have := x.2; simp at this)
          have HA2 : Hid _ := HA1.out.graph hG.keep hG.agree (fun l hl => ⟨hl.1, by have := hl.2; omega⟩) hI
          clear hG hI p2 HA1 q1 p1
          go_upto_region 26 with (at_builtin; refine wp_appD rfl (.tmp 94) (.tmp 97) rfl HA2.out rfl (.string S0) rfl rfl r (dl_length _ _) (by omega) ?_; intro g1 cap1 w3 L3 hA3 hag hkk; clear hag hkk)
          have HA3 : Hid _ := hA3
          clear hA3 HA2 p3
          go_upto_region 27 with (at_builtin; refine wp_appO rfl (.tmp 99) (.tmp 101) rfl HA3.out rfl (.int .i32 wi) rfl rfl r (ol_length _ _) (by omega) ?_; intro g2 cap2 w4 L4 hA4 hag hkk; clear hag hkk)
          have HA4 : Hid _ := hA4
          have q4 : w4.cell? ⟨sg, wi, none⟩ = some (.slice ma M mc) := by rw [← HMV.out]; exact hA4.s.at' (sl_at mv hir)
          clear hA4 HA3
          go_upto_region 28 with (at_builtin; refine wp_appP rfl (.tmp 103) (.tmp 111) rfl HA4.out rfl (.int .i32 ((M : Int) + 1)) rfl rfl r (pl_length _ _) (by omega) ?_; intro g3 cap3 w5 L5 hA5 hag hkk; clear hag hkk)
          have HA5 : Hid _ := hA5
          clear hA5 HA4 q4
          go_upto_region 29 with (at_builtin; refine wp_appS rfl (.tmp 113) (.tmp 114) rfl HA5.out rfl (.slice none 0 0) rfl rfl r (sl_length _ _) (by omega) ?_; intro g4 cap4 w6 L6 hA6 hag hkk; clear hag hkk)
          have HA6 : Hid _ := hA6
          have q6 : w6.cell? ⟨g4, wi, none⟩ = some (.slice ma M mc) := by rw [← HMV.out]; exact hA6.s.at' (sl_at' mv hir _)
          have HMV' : Hid ((fun i => if i = r then Value.slice none 0 0 else mv i) wi = .slice ma M mc) := by
            show (if wi = r then Value.slice none 0 0 else mv wi) = _
            rw [if_neg hne]; exact HMV.out
          have HPL : Hid (((fun i => if i = r then [] else (ob i).parts) wi).length = M) := by
            show (if wi = r then [] else (ob wi).parts).length = M
            rw [if_neg hne]; exact HM.out
          have hiz2 : (wi : Int) < (r : Int) + 1 := by omega
          clear hA6 HA5
          go_wp2_with (at_builtin; refine wp_appM rfl (.tmp 121) (.tmp 123) rfl HA6.out wi r (by omega) (by rw [List.length_append, sl_length]; simp; omega) (by rw [List.length_append, sl_length]; rfl) HMV'.out.symm rfl M HPL.out (by omega) ?_; intro g5 cap5 w7 hA7 hu hf7; obtain ⟨u7, hu7⟩ := hu; have HA7 : Hid _ := hA7; clear hA7)
          go_roundg (G - (r + 1))
          case measure => go_light; omega
          case rel =>
            obtain ⟨L7, hA7, _, _⟩ := HA7.out
            have e : ((M : Int) + 1) = (((ob wi).parts.length + 1 : Nat) : Int) := by rw [HM.out]; simp
            simp only [if_neg hne] at hA7
            rw [e] at hA7
            exact ⟨r + 1, hrG, rfl, by simp, L7, _, _, _, _, _, ws, _, canonB HW.out (by rw [HLW.out]; exact hwl) hir hA7⟩
        · clear hbb p0 p1
          go_upto_region 16 with (go_at_call 4; refine (Add_any HA1.out.g hmax S0).mono ?_; rintro e w2 ⟨rfl, hAd⟩)
          obtain ⟨L2, C2, nc2, cv2, hag, hkp, hA2⟩ := HA1.out.added hAd
          have p3 : w2.cell? ⟨xb, 2, none⟩ = some (.string S0) := hkp.cell_of p2 (by rw [HL.out]; exact fun x => by have := x.2; simp at this)
          have HA2 : Hid _ := hA2
          clear hAd hag hkp hA2 p2 HA1
          go_upto_region 17 with (at_builtin; refine wp_appD rfl (.tmp 56) (.tmp 59) rfl HA2.out rfl (.string S0) rfl rfl r (dl_length _ _) (by omega) ?_; intro g1 cap1 w3 L3 hA3 hag hkk; clear hag hkk)
          have HA3 : Hid _ := hA3
          clear hA3 HA2 p3
          go_upto_region 18 with (at_builtin; refine wp_appO rfl (.tmp 61) (.tmp 63) rfl HA3.out rfl (.int .i32 r) rfl rfl r (ol_length _ _) (by omega) ?_; intro g2 cap2 w4 L4 hA4 hag hkk; clear hag hkk)
          have HA4 : Hid _ := hA4
          clear hA4 HA3
          go_upto_region 19 with (at_builtin; refine wp_appP rfl (.tmp 65) (.tmp 66) rfl HA4.out rfl (.int .i32 0) rfl rfl r (pl_length _ _) (by omega) ?_; intro g3 cap3 w5 L5 hA5 hag hkk; clear hag hkk)
          have HA5 : Hid _ := hA5
          clear hA5 HA4
          go_upto_region 20 with (at_builtin; refine wp_appS rfl (.tmp 68) (.tmp 69) rfl HA5.out rfl (.slice none 0 0) rfl rfl r (sl_length _ _) (by omega) ?_; intro g4 cap4 w6 L6 hA6 hag hkk; clear hag hkk)
          have HA6 : Hid _ := hA6
          clear hA6 HA5
          go_wp2_with (at_builtin; refine wp_appW rfl (.tmp 71) (.tmp 73) rfl HA6.out rfl (.int .i32 r) rfl rfl lw ((ids_length _).trans HLW.out) (by omega) ?_; intro g5 cap5 w7 L7 hA7 hag hkk; clear hag hkk; have HA7 : Hid _ := hA7; clear hA7)
          go_roundg (G - (r + 1))
          case measure => go_light; omega
          case rel =>
            refine ⟨r + 1, hrG, rfl, by simp, L7, _, _, _, _, _, ws ++ [r], _, canonA HW.out (by rw [HLW.out]; exact hwl) HA7.out⟩
    · have hrz : ¬ (r : Int) < (G : Int) := by omega
      obtain rfl : G = r := by omega
      obtain ⟨hws, hwl, hA⟩ := hC
      obtain ⟨wa, wc, hw⟩ := hA.wl.shape
      rw [ids_length] at hw
      subst hw
      have HW : Hid (∀ x ∈ ws, x < G ∧ (ob x).whole = x ∧ (ob x).part = 0) := hws
      have HA : Hid _ := hA
      clear hws hA h0 h1 h2 hra
      generalize hlw : ws.length = lw at *
      have HLW : Hid (ws.length = lw) := hlw
      clear hlw
      go_upto_if 129 with fail
      go_cut [10, 11, 12, 13, 14] (fun s10 s11 s12 s13 s14 wx => ∃ n L ob pv C nc cv ws mv, n ≤ 65537 ∧ 0 < ws.length ∧ Canon w wx L w.heap.size w.heap.size (.pointer none) n ob pv C nc cv ws s10 s11 s12 s13 s14 mv)
      case first =>
        obtain ⟨bb, hbb⟩ : ∃ bb, ((lw : Int) == 0) = bb := ⟨_, rfl⟩
        rw [hbb]
        have HB : Hid (((lw : Int) == 0) = bb) := hbb
        clear hbb
        have hmax : G < 65540 := by omega
        cases bb
        · go_wp2
          go_meet
          have hpos : 0 < ws.length := by
            have := HB.out
            have h0 := HLW.out
            simp at this
            omega
          exact ⟨G, L, ob, pv, C, nc, cv, ws, mv, by omega, hpos, HW.out, by rw [HLW.out]; exact hwl, HA.out⟩
        · go_upto_region 33 with (go_at_call 4; refine (Add_any HA.out.g hmax ⟨#[119]⟩).mono ?_; rintro e w2 ⟨rfl, hAd⟩)
          obtain ⟨L2, C2, nc2, cv2, hag, hkp, hA2⟩ := HA.out.added hAd
          have HA2 : Hid _ := hA2
          clear hAd hag hkp hA2 HA
          go_upto_region 34 with (at_builtin; refine wp_appD rfl (.tmp 131) (.tmp 132) rfl HA2.out rfl (.string ⟨#[119]⟩) rfl rfl G (dl_length _ _) (by omega) ?_; intro g1 cap1 w3 L3 hA3 hag hkk; clear hag hkk)
          have HA3 : Hid _ := hA3
          clear hA3 HA2
          go_upto_region 35 with (at_builtin; refine wp_appO rfl (.tmp 134) (.tmp 136) rfl HA3.out rfl (.int .i32 G) rfl rfl G (ol_length _ _) (by omega) ?_; intro g2 cap2 w4 L4 hA4 hag hkk; clear hag hkk)
          have HA4 : Hid _ := hA4
          clear hA4 HA3
          go_upto_region 36 with (at_builtin; refine wp_appP rfl (.tmp 138) (.tmp 139) rfl HA4.out rfl (.int .i32 0) rfl rfl G (pl_length _ _) (by omega) ?_; intro g3 cap3 w5 L5 hA5 hag hkk; clear hag hkk)
          have HA5 : Hid _ := hA5
          clear hA5 HA4
          go_upto_region 37 with (at_builtin; refine wp_appS rfl (.tmp 141) (.tmp 142) rfl HA5.out rfl (.slice none 0 0) rfl rfl G (sl_length _ _) (by omega) ?_; intro g4 cap4 w6 L6 hA6 hag hkk; clear hag hkk)
          have HA6 : Hid _ := hA6
          clear hA6 HA5
          go_wp2_with (at_builtin; refine wp_appW rfl (.tmp 144) (.tmp 146) rfl HA6.out rfl (.int .i32 G) rfl rfl lw ((ids_length _).trans HLW.out) (by omega) ?_; intro g5 cap5 w7 L7 hA7 hag hkk; clear hag hkk; have HA7 : Hid _ := hA7; clear hA7)
          go_meet
          exact ⟨G + 1, L7, _, _, _, _, _, ws ++ [G], _, by omega, by simp, canonA HW.out (by rw [HLW.out]; exact hwl) HA7.out⟩
      case rest =>
        clear HW HA HLW hwl
        obtain ⟨n, L, ob, pv, C, nc, cv, ws, mv, hn, hwp, hws, hwl, hA⟩ := hcut
        apply ‹∀ (a : Act) (w : World), Code.wp _ _ _ a w → _›
        go_light
        exact tail38 hwn hn hwp hws hwl hA
end Go.Proofs.Ybulkexmym
