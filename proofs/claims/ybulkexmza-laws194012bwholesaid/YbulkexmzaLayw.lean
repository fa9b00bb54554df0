/-
  THE WALK over link.layout (6).
-/
import Derived.Test.YbulkexmzaLayout
namespace Go.Proofs.Ybulkexmza
open Go.RowKit Go.Maps
open Go.WideMaps (keyOf_string_mk)

theorem max_eff (s : Nat) : (if al s < 1 then 1 else al s) = ((eff s : Nat) : Int) := by
  have := al_eff s
  split
  · rw [this.1 ‹_›]; rfl
  · exact this.2 ‹_›
theorem max_pal (X : Inp) (r j : Nat) : (if X.pal r j < eff (X.SA r j) then ((eff (X.SA r j) : Nat) : Int) else ((X.pal r j : Nat) : Int)) = ((X.pal r (j + 1) : Nat) : Int) := by
  simp only [Inp.pal]
  by_cases h : X.pal r j < eff (X.SA r j)
  · rw [if_pos h, if_pos h]
  · rw [if_neg h, if_neg h]

theorem wrap_u64 (n : Nat) (h : n < 18446744073709551616) : IntKind.u64.wrap (n : Int) = (n : Int) := by
  simp [IntKind.wrap, IntKind.bits, IntKind.signed]; omega

theorem wrap_u64z (z : Int) (h0 : 0 ≤ z) (h : z < 18446744073709551616) : IntKind.u64.wrap z = z := by
  obtain ⟨n, rfl⟩ := Int.eq_ofNat_of_zero_le h0
  exact wrap_u64 n (by omega)

set_option maxRecDepth 1000000 in
set_option maxHeartbeats 1000000 in
theorem layout_any {w wl : World} {X : Inp} (hX : X.Ok) (hM : Mem w wl X X.G X.v0) :
    Calls Yba.prog 6 #[.slice (some ⟨w.heap.size, 0, none⟩) X.G X.G] wl fun e w' => e = .returned (.map (some wl.heap.size)) ∧ Mem w w' X X.G X.v1 ∧ w'.ownsMap Yba.prog 9 (plainElem Yba.prog 40) wl.heap.size (sumN X.L X.G) (X.tab X.G) := by
  have hmm := @run_makeMap Yba.prog
  have hS := LS.start hM
  have HS : Hid _ := hS
  have hG := hX.g
  clear hM hS
  have hc0 : (64 : Int) + 56 * ((X.G : Int) + 1) = ((X.cur 0 : Nat) : Int) := by simp [Inp.cur]
  have hc0b : X.cur 0 ≤ 300000 := by simp only [Inp.cur]; omega
  generalize hcc : X.cur 0 = c0 at hc0 hc0b
  generalize hmbb : wl.heap.size = mb at *
  go_enter Yba.func6, Yba.ntmps6
  go_wp2
  go_loopg [4, 20] X.G (fun g s4 s20 wr => ∃ r : Nat, r ≤ X.G ∧ g = X.G - r ∧ s20 = .int .i64 r ∧ s4 = .int .u64 ((X.cur r : Nat) : Int) ∧ LS w wr X mb r (sumN X.L r) 7 9 (X.I r) 3 (X.tab r))
  case atStart => exact ⟨0, Nat.zero_le _, rfl, rfl, by rw [hcc], HS.out⟩
  case round =>
    clear HS hc0 hc0b hcc hmm
    obtain ⟨r, hr, rfl, rfl, rfl, hS⟩ := hrel
    have HS : Hid _ := hS
    clear hS
    by_cases hrG : r < X.G
    · have hrz : (r : Int) < (X.G : Int) := by omega
      obtain ⟨b1, b2, b3⟩ := hX.small hrG
      have q1 := HS.out.ptr hrG
      go_upto_if 26 with fail
      go_cut [4] (fun s4 wx => wr = wx ∧ s4 = .int .u64 ((Inp.pg r (X.cur r) : Nat) : Int))
      case first =>
        by_cases hr0 : 0 < r
        · have hr0z : (0 : Int) < (r : Int) := by omega
          go_wp2_with (go_at_call 10; refine (page_any (X.cur r) (by omega) _).mono ?_; rintro e w' ⟨rfl, hw⟩; cases hw)
          go_meet
          exact ⟨rfl, by simp [Inp.pg, hr0]⟩
        · have hr0z : ¬ (0 : Int) < (r : Int) := by omega
          go_wp2
          go_meet
          exact ⟨rfl, by simp [Inp.pg, hr0]⟩
      case rest =>
        obtain ⟨rfl, rfl⟩ := hcut
        have hLr := hX.l hrG
        have q2 := HS.out.sl hrG
        have q3 := HS.out.n6 hrG
        have q4 := HS.out.mem.frz hrG 6
        have HT : Hid (LS w (wr.setCell ⟨X.pb w.heap.size r, 6, none⟩ (.int .u64 1)) X mb r (sumN X.L r) 7 9 (X.I r) (X.pal r 0) (X.tab r)) := HS.out.set6 hrG 1
        clear HS q1
        go_wp2
        clear q2 q3 q4
        go_loopg [37] (X.L r) (fun g s37 wx => ∃ j : Nat, j ≤ X.L r ∧ g = X.L r - j ∧ s37 = .int .i64 j ∧ LS w wx X mb r (sumN X.L r) 7 9 (X.I r) (X.pal r j) (X.tab r))
        case atStart => exact ⟨0, Nat.zero_le _, rfl, rfl, HT.out⟩
        case round =>
          clear HT
          obtain ⟨j, hj, rfl, rfl, hS⟩ := hrel
          have HS : Hid _ := hS
          clear hS
          by_cases hjL : j < X.L r
          · have hjz : (j : Int) < (X.L r : Int) := by omega
            have q1 := (HS.out.mem.syms r hrG).cell hjL
            have q2 : wr.cell? ⟨X.sb w.heap.size r j, 4, none⟩ = some (.int .i64 (al (X.SA r j))) := (HS.out.mem.sym r hrG j hjL).cell (i := 4) (by omega)
            have q3 := HS.out.n6 hrG
            have q4 := HS.out.mem.frz hrG 6
            have hm1 := max_eff (X.SA r j)
            have hm2 := max_pal X r j
            have hb := eff_le (X.SA r j)
            have hb2 := X.pal_le r j
            have HN : Hid (LS w (wr.setCell ⟨X.pb w.heap.size r, 6, none⟩ (.int .u64 ((X.pal r (j + 1) : Nat) : Int))).drew X mb r (sumN X.L r) 7 9 (X.I r) (X.pal r (j + 1)) (X.tab r)) := (HS.out.set6 hrG (X.pal r (j + 1))).drew
            have hw1 := wrap_u64 (eff (X.SA r j)) (by omega)
            clear HS
            obtain ⟨p', hp'⟩ : ∃ p', p' = X.pal r (j + 1) := ⟨_, rfl⟩
            rw [← hp'] at hm2 HN
            have HP : Hid _ := hp'
            clear hp'
            generalize X.pal r j = p at *
            generalize eff (X.SA r j) = ef at *
            generalize al (X.SA r j) = z at *
            go_upto_region 12 with fail
            refine region_tail 14 (by kernel_rfl) (by kernel_rfl) ?_
            simp only [List.take_succ_cons, List.take_zero, List.drop_succ_cons, List.drop_zero]
            iterate 14 still_step
            refine wpStill_nil ?_
            go_wp2_with fail
            go_roundg (X.L r - (j + 1))
            case measure => go_light; omega
            case rel => go_light; exact ⟨j + 1, hjL, rfl, by simp, HP.out ▸ HN.out⟩
          · have hjz : ¬ (j : Int) < (X.L r : Int) := by omega
            obtain rfl : j = X.L r := by omega
            -- behind the first loop: offset and address
            have q3 := HS.out.n3 hrG
            have q3f := HS.out.mem.frz hrG 3
            have q4 := HS.out.n4 hrG
            have q4f := HS.out.mem.frz hrG 4
            have q6 := HS.out.n6 hrG
            have q2 := HS.out.sl hrG
            have hb := X.pal_le r (X.L r)
            have hoff : up (Inp.pg r (X.cur r)) (X.pal r (X.L r)) = X.off r := rfl
            obtain ⟨k, hk, hpk⟩ := X.pal_pow r (X.L r)
            have hcall := alignUp_any (Inp.pg r (X.cur r)) k hk (by omega)
            rw [← hpk, hoff] at hcall
            have HC : Hid _ := hcall
            have e4 : ((4194304 + X.off r : Nat) : Int) = 4194304 + ((X.off r : Nat) : Int) := by simp
            have HN : Hid (LS w ((wr.setCell ⟨X.pb w.heap.size r, 3, none⟩ (.int .u64 ((X.off r : Nat) : Int))).setCell ⟨X.pb w.heap.size r, 4, none⟩ (.int .u64 (4194304 + ((X.off r : Nat) : Int)))) X mb r (sumN X.L r) (X.off r) (4194304 + X.off r) (X.I r) (X.pal r (X.L r)) (X.tab r)) := e4 ▸ (HS.out.set3 hrG (X.off r)).set4 hrG (4194304 + X.off r)
            clear e4 HS hpk hoff hcall hr hrz
            obtain ⟨of, hof⟩ : ∃ of, of = X.off r := ⟨_, rfl⟩
            obtain ⟨p, hp⟩ : ∃ p, p = X.pal r (X.L r) := ⟨_, rfl⟩
            rw [← hof] at HC HN b3
            rw [← hp] at HC HN hb q6
            have HOP : Hid (of = X.off r ∧ p = X.pal r (X.L r)) := ⟨hof, hp⟩
            clear hof hp
            go_wp2_with (go_at_call 10; refine Calls.mono (HC.out _) ?_; rintro e w' ⟨rfl, hw⟩; cases hw)
            clear q2 q3 q3f q4 q4f q6 HC hb hk k
            go_loopg [78] (X.L r) (fun g s78 wx => ∃ j : Nat, j ≤ X.L r ∧ g = X.L r - j ∧ s78 = .int .i64 j ∧ LS w wx X mb r (sumN X.L r + j) of (4194304 + of) (X.sz r j) p (X.tb (X.tab r) r j))
            case atStart => exact ⟨0, Nat.zero_le _, rfl, rfl, HN.out⟩
            case round =>
              clear HN
              obtain ⟨j, hj, rfl, rfl, hS⟩ := hrel
              have HS : Hid _ := hS
              clear hS
              by_cases hjL : j < X.L r
              · have hjz : (j : Int) < (X.L r : Int) := by omega
                have HSY : Hid (wr.rowIs (X.sb w.heap.size r j) 38 6 (X.symf w.heap.size r j)) := HS.out.mem.sym r hrG j hjL
                have q1 := (HS.out.mem.syms r hrG).cell hjL
                have q2 : wr.cell? ⟨X.sb w.heap.size r j, 4, none⟩ = some (.int .i64 (al (X.SA r j))) := HSY.out.cell (i := 4) (by omega)
                have q0 : wr.cell? ⟨X.sb w.heap.size r j, 0, none⟩ = some (.string (X.SN r j)) := HSY.out.cell (i := 0) (by omega)
                have n4 := HS.out.n4 hrG
                have n5 := HS.out.n5 hrG
                have f5 := HS.out.mem.frz hrG 5
                have hm1 := max_eff (X.SA r j)
                have hb := eff_le (X.SA r j)
                have hw1 := wrap_u64 (eff (X.SA r j)) (by omega)
                have hsz := hX.szs hrG (Nat.le_of_lt hjL)
                have hup := up_le (n := X.sz r j) hb.1
                have htk := hX.tk_le hrG hjL
                have hnm := hX.sn r hrG j hjL
                have hss := hX.s
                have hsa := sumN_at X.L hrG
                have HC : Hid (∀ w, Calls Yba.prog 10 #[.int .u64 ((X.sz r j : Nat) : Int), .int .u64 ((eff (X.SA r j) : Nat) : Int)] w fun e w' => e = .returned (.int .u64 ((up (X.sz r j) (eff (X.SA r j)) : Nat) : Int)) ∧ w' = w) := by
                  obtain ⟨k, hk, he⟩ := eff_pow (X.SA r j)
                  intro w'
                  rw [he]
                  exact (alignUp_any (X.sz r j) k hk (by omega) w').mono (fun e w'' ⟨h1, h2⟩ => ⟨h1, h2.symm⟩)
                have HT : Hid (LS w (wr.setCell ⟨X.pb w.heap.size r, 5, none⟩ (.int .u64 ((up (X.sz r j) (eff (X.SA r j)) : Nat) : Int))).drew X mb r (sumN X.L r + j) of (4194304 + of) (up (X.sz r j) (eff (X.SA r j))) p (X.tb (X.tab r) r j)) := (HS.out.set5 hrG _).drew
                clear HS
                obtain ⟨un, hun⟩ : ∃ un, un = up (X.sz r j) (eff (X.SA r j)) := ⟨_, rfl⟩
                rw [← hun] at HC HT hup
                have HSZ : Hid (X.sz r (j + 1) = un + X.tk r j) := by rw [hun]; rfl
                have HTB : Hid (X.tb (X.tab r) r (j + 1) = (X.tb (X.tab r) r j).put (X.key r j) (.lit (.int .u64 (4194304 + (of : Int) + (un : Int))))) := by
                  have e : ((X.ad r j : Nat) : Int) = 4194304 + (of : Int) + (un : Int) := by rw [hun, HOP.out.1]; simp [Inp.ad]
                  rw [← e]; rfl
                clear hun
                generalize eff (X.SA r j) = ef at *
                generalize al (X.SA r j) = z at *
                go_upto_region 19 with fail
                refine region_tail 14 (by kernel_rfl) (by kernel_rfl) ?_
                simp only [List.take_succ_cons, List.take_zero, List.drop_succ_cons, List.drop_zero]
                iterate 11 still_step
                still_call (HC.out _)
                iterate 2 still_step
                refine wpStill_nil ?_
                have hub : un ≤ 10000020000 := by omega
                go_upto_region 20 with fail
                clear hup
                clear q0 q1 q2 n4 n5 f5 HSY HC hm1 hb hw1
                generalize (wr.setCell ⟨X.pb w.heap.size r, 5, none⟩ (.int .u64 (un : Int))).drew = w5 at HT ⊢
                have q0 : w5.cell? ⟨X.sb w.heap.size r j, 0, none⟩ = some (.string (X.SN r j)) := (HT.out.mem.sym r hrG j hjL).cell (i := 0) (by omega)
                have n4 := HT.out.n4 hrG
                have n5 := HT.out.n5 hrG
                have e4 : ((4194304 + of : Nat) : Int) = 4194304 + (of : Int) := by simp
                rw [e4] at n4
                clear e4
                have hw2 := wrap_u64z (4194304 + (of : Int) + (un : Int)) (by omega) (by omega)
                refine region_tail 14 (by kernel_rfl) (by kernel_rfl) ?_
                simp only [List.take_succ_cons, List.take_zero, List.drop_succ_cons, List.drop_zero]
                iterate 14 still_step
                refine wpStill_nil ?_
                clear q0 n4 n5
                go_upto_region 21 with (at_mapUpdate; refine wpList_mapUpdate_own _ rfl _ _ _ 43 rfl 9 40 keyed Yba.underlying43 _ mb _ _ rfl HT.out.drew.map (by unfold maxLen; omega) _ _ _ rfl rfl (keyOf_string_mk Yba.underlying9 hnm) _ [] (plainElem_int Yba.underlying40 (by simp [Lit.wf, IntKind.min, IntKind.max, IntKind.signed, IntKind.bits]; omega)) ?_; intro w6 hown hgrow)
                have HV : Hid _ := LS.put HT.out.drew hown hgrow
                clear HT hown hgrow
                have n5 := HV.out.n5 hrG
                have f5 := HV.out.mem.frz hrG 5
                have HC : Hid (Calls Yba.prog 11 #[.pointer (some ⟨X.sb w.heap.size r j, 0, none⟩)] w6.drew fun e w' => e = .returned (.int .i64 ((X.tk r j : Nat) : Int)) ∧ w' = w6.drew) :=
                  (symSize_any (HV.out.drew.mem.sym r hrG j hjL) (hX.sz r hrG j hjL) (hX.sd r hrG j hjL)).mono (fun e w'' ⟨h1, h2⟩ => ⟨h1, h2.symm⟩)
                have hw1 := wrap_u64 (X.tk r j) (by omega)
                have hw3 := wrap_u64z ((un : Int) + ((X.tk r j : Nat) : Int)) (by omega) (by omega)
                clear hw2
                have e5 : ((un + X.tk r j : Nat) : Int) = (un : Int) + ((X.tk r j : Nat) : Int) := by simp
                have HN : Hid (LS w (w6.setCell ⟨X.pb w.heap.size r, 5, none⟩ (.int .u64 ((un : Int) + ((X.tk r j : Nat) : Int)))).drew X mb r (sumN X.L r + j + 1) of (4194304 + of) (X.sz r (j + 1)) p (X.tb (X.tab r) r (j + 1))) := by
                  rw [HSZ.out, HTB.out, ← e5]
                  exact (HV.out.set5 hrG _).drew
                clear HV e5 HSZ HTB hnm
                generalize X.tk r j = tk at *
                refine region_tail 10 (by kernel_rfl) (by kernel_rfl) ?_
                simp only [List.take_succ_cons, List.take_zero, List.drop_succ_cons, List.drop_zero]
                iterate 5 still_step
                still_call HC.out
                iterate 4 still_step
                refine wpStill_nil ?_
                go_wp2_with fail
                go_roundg (X.L r - (j + 1))
                case measure => go_light; omega
                case rel => go_light; exact ⟨j + 1, hjL, rfl, by simp, HN.out⟩
              · have hjz : ¬ (j : Int) < (X.L r : Int) := by omega
                obtain rfl : j = X.L r := by omega
                have q1 := HS.out.kind hrG
                have n3 := HS.out.n3 hrG
                have n5 := HS.out.n5 hrG
                have hsz := hX.szs hrG (Nat.le_refl _)
                have HCU : Hid (X.cur (r + 1) = if X.K r % 4 = 2 then Inp.pg r (X.cur r) else of + X.sz r (X.L r)) := by rw [HOP.out.1]; rfl
                have HN : Hid (LS w wr X mb (r + 1) (sumN X.L (r + 1)) 7 9 (X.I (r + 1)) 3 (X.tab (r + 1))) := LS.next (by
                  rw [← HOP.out.1, ← HOP.out.2]; exact HS.out)
                clear HS hj
                have hk := Nat.mod_lt (X.K r) (show 0 < 4 by omega)
                generalize X.sz r (X.L r) = sz at *
                generalize X.K r % 4 = k at *
                generalize Inp.pg r (X.cur r) = pgc at *
                by_cases hk2 : k = 2
                · subst hk2
                  simp only [if_true] at HCU
                  go_wp2
                  go_roundg (X.G - (r + 1))
                  case measure => go_light; omega
                  case rel => go_light; exact ⟨r + 1, hrG, rfl, by simp, by rw [HCU.out], HN.out⟩
                · have hkb : ((k : Int) != 2) = true := by simp; omega
                  simp only [hk2, if_false] at HCU
                  go_wp2_with fail
                  go_quiet (fail)
                  go_wp2
                  go_roundg (X.G - (r + 1))
                  case measure => go_light; omega
                  case rel => go_light; exact ⟨r + 1, hrG, rfl, by simp, by rw [HCU.out]; simp, HN.out.drewN _⟩
    · have hrz : ¬ (r : Int) < (X.G : Int) := by omega
      obtain rfl : r = X.G := by omega
      go_wp2
      go_ret
      exact ⟨rfl, HS.out.done, HS.out.map⟩
end Go.Proofs.Ybulkexmza
