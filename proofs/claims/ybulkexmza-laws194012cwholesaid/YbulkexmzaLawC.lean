/-
  THE WALK over sink.LawS194012CWhole (4).
-/
import Derived.Test.YbulkexmzaFin
import Derived.Deep.DeepCutAuto
import Derived.BigQuiet
namespace Go.Proofs.Ybulkexmza
open Go.RowKit

theorem rem_nat (z n : Nat) : Int.tmod (z : Int) (n : Int) = ((z % n : Nat) : Int) := by rw [Int.ofNat_tmod]

theorem val_top {T : Nat → Nat → Nat} {L : Nat → Nat} {n G : Nat} (hnG : n = G ∨ (n = 1 ∧ G = 0)) (hL0 : ∀ j, G ≤ j → L j = 0) (j : Nat) : val T L n 0 j = val T L G 0 j := by
  rcases hnG with rfl | ⟨rfl, rfl⟩
  · rfl
  · simp [val, cntA, cntI, hL0 0 (Nat.le_refl _)]
theorem sum_top {L : Nat → Nat} {n G : Nat} (hnG : n = G ∨ (n = 1 ∧ G = 0)) (hL0 : ∀ j, G ≤ j → L j = 0) : sumL L n = sumL L G := by
  rcases hnG with rfl | ⟨rfl, rfl⟩
  · rfl
  · simp [sumL, hL0 0 (Nat.le_refl _)]

theorem sumL_big {L : Nat → Nat} {i : Nat} (h : ∀ r, r < i → L r ≤ 70368744177664) : sumL L i ≤ i * 70368744177664 := by
  induction i with
  | zero => exact Nat.le_refl _
  | succ i ih => simp only [sumL]; have := ih (fun r hr => h r (by omega)); have := h i (by omega); omega

set_option maxHeartbeats 1000000 in
set_option maxRecDepth 1000000 in
theorem law_any (ga : Option Addr) (gb go G Gc : Nat) (A : Nat → Option Addr) (L C RB RO : Nat → Nat) (Z : Nat → Nat → Nat) (w : World) (hga : 0 < G → ga = some ⟨gb, go, none⟩)
    (hGb : G ≤ 281474976710656) (hLb : ∀ r, r < G → L r ≤ 70368744177664) (hL0 : ∀ j, G ≤ j → L j = 0)
    (hrow : ∀ r, r < G → w.cell? ⟨gb, go + r, none⟩ = some (.slice (A r) (L r) (C r)))
    (hA : ∀ r, r < G → ∀ c, c < L r → A r = some ⟨RB r, RO r, none⟩ ∧ w.cell? ⟨RB r, RO r + c, none⟩ = some (.int .u16 (Z r c)) ∧ Z r c < 65536) :
    Calls Yba.prog 4 #[.slice ga G Gc] w fun e w' => e = .returned (.bool true) ∧ w.Since w.heap.size w' := by
  by_cases hG1 : 1024 < G
  · have hG1z : (1024 : Int) < G := by omega
    go_enter Yba.func4, Yba.ntmps4
    go_wp2
    go_ret
    exact ⟨rfl, .refl _ _⟩
  have hG1z : ¬ (1024 : Int) < G := by omega
  go_enter Yba.func4, Yba.ntmps4
  go_wp2
  go_loopg [3, 4] G (fun g s i wr => w = wr ∧ ∃ r : Nat, r ≤ G ∧ g = G - r ∧ i = .int .i64 r ∧ s = .int .i64 (sumL L r))
  case atStart => exact ⟨rfl, 0, Nat.zero_le _, rfl, rfl, rfl⟩
  case round =>
    obtain ⟨rfl, r, hr, rfl, rfl, rfl⟩ := hrel
    by_cases hrG : r < G
    · obtain rfl := hga (by omega)
      have hrz : (r : Int) < (G : Int) := by omega
      have q1 := hrow r hrG
      have hL := hLb r hrG
      have hs := sumL_big (L := L) (i := r) (fun r' hr' => hLb r' (by omega))
      have hadd : sumL L r + L r = sumL L (r + 1) := rfl
      have hA' : Aside (sumL L r + L r = sumL L (r + 1)) := hadd
      clear hrow hA hadd
      generalize sumL L r = s at *
      have hs' : s ≤ 72057594037927936 := by omega
      clear hs
      go_wp2
      go_roundg (G - (r + 1))
      case measure => go_light; omega
      case rel => go_light; exact ⟨rfl, r + 1, hrG, rfl, by simp, by rw [← hA'.out]; simp⟩
    · have hrz : ¬ (r : Int) < (G : Int) := by omega
      obtain rfl : G = r := by omega
      have hs := sumL_big hLb
      by_cases hbig : 16384 < sumL L G
      · have hbz : (16384 : Int) < (sumL L G : Nat) := by omega
        go_wp2
        go_ret
        exact ⟨rfl, .refl _ _⟩
      · have hbz : ¬ (16384 : Int) < (sumL L G : Nat) := by omega
        clear hs
        go_upto_if 42 with fail
        go_cut [5] (fun s5 wx => w = wx ∧ ∃ n : Nat, (n = G ∨ (n = 1 ∧ G = 0)) ∧ 0 < n ∧ s5 = .int .i64 n)
        case first =>
          obtain ⟨bb, hbb⟩ : ∃ bb, ((G : Int) == 0) = bb := ⟨_, rfl⟩
          rw [hbb]
          have HB : Aside (((G : Int) == 0) = bb) := hbb
          clear hbb
          cases bb
          · go_wp2
            go_meet
            go_light
            exact ⟨rfl, G, .inl rfl, by have := HB.out; simp at this; omega, rfl⟩
          · go_wp2
            go_meet
            go_light
            exact ⟨rfl, 1, .inr ⟨rfl, by have := HB.out; simpa using this⟩, Nat.one_pos, rfl⟩
        case rest =>
          obtain ⟨rfl, n, hnG, hn, rfl⟩ := hcut
          apply ‹∀ (a : Act) (w : World), Code.wp _ _ _ a w → _›
          go_light
          have hn' : n ≤ 1024 := by omega
          have hs0 := sum_top hnG hL0
          have hv0 := fun T => val_top (T := T) hnG hL0
          have hGn : G ≤ n := by omega
          have HX : Aside ((n = G ∨ n = 1 ∧ G = 0) ∧ sumL L n = sumL L G ∧ ∀ T j, val T L n 0 j = val T L G 0 j) := ⟨hnG, hs0, hv0⟩
          clear hnG hs0 hv0 hr hrG hrz hbz
          have hmk := run_make_row' (P := Yba.prog) 51 52 (.pointer none) 8 Yba.underlying51 Yba.info52 rfl .i64 .i64 n (by omega) (by omega)
          have hM0 := Mk.start w n
          go_wp2
          clear hmk
          go_loopg [7] n (fun g i wr => ∃ r : Nat, r ≤ n ∧ g = n - r ∧ i = .int .i64 r ∧ Mk w wr n r)
          case atStart => exact ⟨0, Nat.zero_le _, rfl, rfl, hM0⟩
          case round =>
            clear hM0
            obtain ⟨r, hr, rfl, rfl, hM⟩ := hrel
            by_cases hrn : r < n
            · have hrz : (r : Int) < (n : Int) := by omega
              have hst1 : ∀ o, (wr.alloc o).cell? ⟨w.heap.size, r, none⟩ = some (.pointer none) := fun o => by
                rw [(hM.top.alloc o).cell hrn]; simp
              have hst2 : ∀ o, (wr.alloc o).frozen? ⟨w.heap.size, r, none⟩ = false := fun o => (hM.top.alloc o).frozen r
              have st1 : wr.cell? ⟨w.heap.size, r, none⟩ = some (.pointer none) := by rw [hM.top.cell hrn]; simp
              have st2 : wr.frozen? ⟨w.heap.size, r, none⟩ = false := hM.top.frozen r
              have hlt := hM.top.lt
              have hN := hM.next
              rw [World.setCell_alloc_past _ _ _ _ hlt] at hN
              clear hM
              go_wp2
              go_roundg (n - (r + 1))
              case measure => go_light; omega
              case rel =>
                go_light
                refine ⟨r + 1, hrn, rfl, by simp, ?_⟩
                exact hN
            · have hrz : ¬ (r : Int) < (n : Int) := by omega
              obtain rfl : n = r := by omega
              have hS := hM.done L (fun i k => Z i k % n)
              clear hM
              go_wp2
              have hS' : St w wr n L (fun i k => Z i k % n) 0 := hS
              clear hS
              go_loopg [8] G (fun g i wr => ∃ r : Nat, r ≤ G ∧ g = G - r ∧ i = .int .i64 r ∧ St w wr n L (fun i k => Z i k % n) r)
              case atStart => exact ⟨0, Nat.zero_le _, rfl, rfl, hS'⟩
              case round =>
                clear hS'
                obtain ⟨r, hr, rfl, rfl, hS⟩ := hrel
                by_cases hrG : r < G
                · obtain rfl := hga (by omega)
                  have hrz : (r : Int) < (G : Int) := by omega
                  have hL : L r ≤ 16384 := by have := sumL_at L hrG; omega
                  have q1 : wr.cell? ⟨gb, go + r, none⟩ = some (.slice (A r) (L r) (C r)) := by rw [hS.since.cell (World.block_lt_of_cell? _ _ (hrow r hrG))]; exact hrow r hrG
                  have hmk := run_make_row' (P := Yba.prog) 51 52 (.pointer none) 8 Yba.underlying51 Yba.info52 rfl .i64 .i64 (L r) (by omega) (by omega)
                  have hO := hS.open
                  have hsz := hS.size
                  clear hS
                  go_wp2
                  clear hmk q1 hsz
                  go_loopg [10] (L r) (fun g i wi => ∃ k : Nat, k ≤ L r ∧ g = L r - k ∧ i = .int .i64 k ∧ Su w wi n L (fun i k => Z i k % n) r k)
                  case atStart => exact ⟨0, Nat.zero_le _, rfl, rfl, hO⟩
                  case round =>
                    clear hO
                    obtain ⟨k, hk, rfl, rfl, hI⟩ := hrel
                    have q1 : wr.cell? ⟨gb, go + r, none⟩ = some (.slice (A r) (L r) (C r)) := by rw [hI.since.cell (World.block_lt_of_cell? _ _ (hrow r hrG))]; exact hrow r hrG
                    by_cases hkL : k < L r
                    · have hkz : (k : Int) < (L r : Int) := by omega
                      obtain ⟨e1, e2, hz⟩ := hA r hrG k hkL
                      rw [← hI.since.cell (World.block_lt_of_cell? _ _ e2)] at e2
                      rw [e1] at q1
                      have hxn : Z r k % n < n := Nat.mod_lt _ hn
                      have q3 := hI.top.cell hxn
                      have q4 : wr.cell? ⟨w.heap.size + 1 + n + r, k, none⟩ = some (.pointer none) := by rw [hI.cur.cell hkL]; simp
                      have q5 := hI.cur.frozen k
                      have hN := hI.next
                      have hrem := rem_nat (Z r k) n
                      generalize hxx : Z r k % n = x at *
                      generalize hzz : Z r k = z at *
                      have hxz : (x : Int) < (n : Int) := by omega
                      have hnz : ¬ (n : Int) = 0 := by omega
                      have HN : Aside (Su _ _ _ _ _ _ _) := hN
                      clear hxx hzz hI hN e1
                      go_wp2
                      go_roundg (L r - (k + 1))
                      case measure => go_light; omega
                      case rel => go_light; exact ⟨k + 1, hkL, rfl, by simp, HN.out⟩
                    · have hkz : ¬ (k : Int) < (L r : Int) := by omega
                      have HD : Aside (Su w wr n L (fun i k => Z i k % n) r (L r)) := by
                        have : k = L r := by omega
                        rw [this] at hI; exact hI
                      have q2 := hI.top.cell (i := r) (by omega)
                      have q3 : wr.cell? ⟨w.heap.size + 1 + r, 4, none⟩ = some (.slice none 0 0) := by rw [(hI.blk r (by omega)).cell (i := 4) (by omega)]; simp [bk, sv]
                      have q4 := (hI.blk r (by omega)).frozen 4
                      have hrn : (r : Int) < (n : Int) := by omega
                      clear hI
                      go_wp2
                      go_roundg (G - (r + 1))
                      case measure => go_light; omega
                      case rel => go_light; exact ⟨r + 1, hrG, rfl, by simp, HD.out.done (by omega)⟩
                · have hrz : ¬ (r : Int) < (G : Int) := by omega
                  obtain rfl : G = r := by omega
                  have hpred := hS.pred hn hn' (by rw [HX.out.2.1]; omega) hL0 (fun i k => Nat.mod_lt _ hn)
                  have hsz := hS.size
                  simp only [fcells] at hpred
                  clear hS
                  go_wp2_with (go_at_call 9; refine hpred.mono ?_; rintro e w' ⟨rfl, hF⟩; clear hpred hsz)
                  have hE : ∀ r, r < G → w'.cell? ⟨gb, go + r, none⟩ = some (.slice (A r) (L r) (C r)) := fun r hr => by rw [hF.since.cell (World.block_lt_of_cell? _ _ (hrow r hr))]; exact hrow r hr
                  have hEA : ∀ r, r < G → ∀ c, c < L r → A r = some ⟨RB r, RO r, none⟩ ∧ w'.cell? ⟨RB r, RO r + c, none⟩ = some (.int .u16 (Z r c)) ∧ Z r c < 65536 := fun r hr c hc => by
                    obtain ⟨e1, e2, e3⟩ := hA r hr c hc
                    exact ⟨e1, by rw [hF.since.cell (World.block_lt_of_cell? _ _ e2)]; exact e2, e3⟩
                  -- THE MODEL's COUNTS
                  go_loopg [13] n (fun g s wx => w' = wx ∧ ∃ j : Nat, j ≤ n ∧ g = n - j ∧ s = .int .i64 j)
                  case atStart => exact ⟨rfl, 0, Nat.zero_le _, rfl, rfl⟩
                  case round =>
                    obtain ⟨rfl, j, hj, rfl, rfl⟩ := hrel
                    by_cases hjn : j < n
                    · have hjz : (j : Int) < (n : Int) := by omega
                      go_upto_if 115 with fail
                      go_cut [14] (fun s14 wx => w' = wx ∧ s14 = .int .i64 (val (fun i k => Z i k % n) L 0 0 j))
                      case first =>
                        obtain ⟨bb, hbb⟩ : ∃ bb, ((j : Int) == 0) = bb := ⟨_, rfl⟩
                        rw [hbb]
                        have HB : Aside (((j : Int) == 0) = bb) := hbb
                        clear hbb
                        cases bb
                        · go_wp2
                          go_meet
                          go_light
                          have := HB.out
                          have h0 : ¬ j = 0 := by simpa using this
                          exact ⟨rfl, by simp [val, pr0, cntA, cntI, h0]⟩
                        · go_wp2
                          go_meet
                          go_light
                          have := HB.out
                          have h0 : j = 0 := by simpa using this
                          exact ⟨rfl, by simp [val, pr0, cntA, cntI, h0]⟩
                      case rest =>
                        obtain ⟨rfl, rfl⟩ := hcut
                        go_wp2
                        go_loopg [14, 15] G (fun g s i wx => w' = wx ∧ ∃ r : Nat, r ≤ G ∧ g = G - r ∧ i = .int .i64 r ∧ s = .int .i64 (val (fun i k => Z i k % n) L r 0 j))
                        case atStart => exact ⟨rfl, 0, Nat.zero_le _, rfl, rfl, rfl⟩
                        case round =>
                          obtain ⟨rfl, r, hr, rfl, rfl, rfl⟩ := hrel
                          by_cases hrG : r < G
                          · obtain rfl := hga (by omega)
                            have hrz : (r : Int) < (G : Int) := by omega
                            have hLr : L r ≤ 16384 := by have := sumL_at L hrG; omega
                            go_wp2
                            go_loopg [14, 16] (L r) (fun g s i wx => w' = wx ∧ ∃ k : Nat, k ≤ L r ∧ g = L r - k ∧ i = .int .i64 k ∧ s = .int .i64 (val (fun i k => Z i k % n) L r k j))
                            case atStart => exact ⟨rfl, 0, Nat.zero_le _, rfl, rfl, rfl⟩
                            case round =>
                              obtain ⟨rfl, k, hk, rfl, rfl, rfl⟩ := hrel
                              have hvb := val_le (fun i k => Z i k % n) L hrG hk j
                              by_cases hkL : k < L r
                              · have hkz : (k : Int) < (L r : Int) := by omega
                                obtain ⟨e1, e2, hz⟩ := hEA r hrG k hkL
                                have q1 := hE r hrG
                                rw [e1] at q1
                                have hrem := rem_nat (Z r k) n
                                have HV : Aside (val (fun i k => Z i k % n) L r (k + 1) j = val (fun i k => Z i k % n) L r k j + if Z r k % n = j then 1 else 0) := val_step _ _ _ _ _
                                clear hE hEA e1 hF
                                generalize hvv : val (fun i k => Z i k % n) L r k j = v at *
                                generalize hxx : Z r k % n = x at *
                                generalize hzz : Z r k = z at *
                                have hnz : ¬ (n : Int) = 0 := by omega
                                clear hxx hzz hvv
                                by_cases hxj : x = j
                                · have HX' : Aside (x = j) := hxj
                                  have hxb : ((x : Int) == (j : Int)) = true := by simp [hxj]
                                  clear hxj
                                  go_wp2
                                  go_roundg (L r - (k + 1))
                                  case measure => go_light; omega
                                  case rel =>
                                    go_light
                                    refine ⟨rfl, k + 1, hkL, rfl, by simp, ?_⟩
                                    rw [HV.out, if_pos HX'.out]; simp
                                · have HX' : Aside (¬ x = j) := hxj
                                  have hxb : ((x : Int) == (j : Int)) = false := by simp; omega
                                  clear hxj
                                  go_wp2
                                  go_roundg (L r - (k + 1))
                                  case measure => go_light; omega
                                  case rel =>
                                    go_light
                                    refine ⟨rfl, k + 1, hkL, rfl, by simp, ?_⟩
                                    rw [HV.out, if_neg HX'.out]; simp
                              · have hkz : ¬ (k : Int) < (L r : Int) := by omega
                                have q1 := hE r hrG
                                have HV : Aside (val (fun i k => Z i k % n) L r k j = val (fun i k => Z i k % n) L (r + 1) 0 j) := by
                                  have : k = L r := by omega
                                  rw [this]; exact val_next _ _ _ _
                                clear hE hEA hF
                                generalize val (fun i k => Z i k % n) L r k j = v at *
                                go_wp2
                                go_roundg (G - (r + 1))
                                case measure => go_light; omega
                                case rel => go_light; exact ⟨rfl, r + 1, hrG, rfl, by simp, by rw [HV.out]⟩
                          · have hrz : ¬ (r : Int) < (G : Int) := by omega
                            obtain rfl : G = r := by omega
                            have q1 := hF.got.cell hjn
                            rw [HX.out.2.2] at q1
                            clear hE hEA hF
                            generalize val (fun i k => Z i k % n) L G 0 j = v at *
                            go_wp2
                            go_roundg (n - (j + 1))
                            case measure => go_light; omega
                            case rel => go_light; exact ⟨rfl, j + 1, hjn, rfl, by simp⟩
                    · have hjz : ¬ (j : Int) < (n : Int) := by omega
                      obtain rfl : n = j := by omega
                      have q1 := hF.fc
                      go_wp2
                      clear q1
                      have hF' : Fin' w w' n G L (fun i k => Z i k % n) := hF
                      clear hF hE hEA
                      go_loopg [17] n (fun g s wx => ∃ i m : Nat, i ≤ n ∧ g = n - i ∧ s = .int .i64 i ∧ wx = w'.drewN m)
                      case atStart => exact ⟨0, 0, Nat.zero_le _, rfl, rfl, rfl⟩
                      case round =>
                        obtain ⟨i, m, hi, rfl, rfl, rfl⟩ := hrel
                        by_cases hin : i < n
                        · have hiz : (i : Int) < (n : Int) := by omega
                          have p1 := neq52 ⟨w.heap.size + 1 + i, 0, none⟩
                          have p2 := neq53
                          have p3 := neq55
                          have q1 := hF'.fc
                          have q2 := hF'.top.cell hin
                          have b0 : w'.cell? ⟨w.heap.size + 1 + i, 0, none⟩ = some (.int .i64 i) := (hF'.blk i hin).cell (i := 0) (by omega)
                          have b1 : w'.cell? ⟨w.heap.size + 1 + i, 1, none⟩ = some (.slice none 0 0) := (hF'.blk i hin).cell (i := 1) (by omega)
                          have b2 : w'.cell? ⟨w.heap.size + 1 + i, 2, none⟩ = some (.int .u8 0) := (hF'.blk i hin).cell (i := 2) (by omega)
                          have b3 : w'.cell? ⟨w.heap.size + 1 + i, 3, none⟩ = some (.pointer none) := (hF'.blk i hin).cell (i := 3) (by omega)
                          have b4 : w'.cell? ⟨w.heap.size + 1 + i, 4, none⟩ = some (sv w.heap.size n L G i) := (hF'.blk i hin).cell (i := 4) (by omega)
                          by_cases hiG : i < G
                          · obtain rfl := hga (by omega)
                            have higz : (i : Int) < (G : Int) := by omega
                            have hLr : L i ≤ 16384 := by have := sumL_at L hiG; omega
                            have b5 : w'.cell? ⟨w.heap.size + 1 + i, 4, none⟩ = some (.slice (some ⟨w.heap.size + 1 + n + i, 0, none⟩) (L i) (L i)) := by rw [b4]; simp [sv, hiG]
                            have q3 : w'.cell? ⟨gb, go + i, none⟩ = some (.slice (A i) (L i) (C i)) := by rw [hF'.since.cell (World.block_lt_of_cell? _ _ (hrow i hiG))]; exact hrow i hiG
                            clear b4
                            go_wp2
                            clear p1 p2 p3 q1 q2 b0 b1 b2 b3
                            go_loopg [20] (L i) (fun g s wx => ∃ k m : Nat, k ≤ L i ∧ g = L i - k ∧ s = .int .i64 k ∧ wx = w'.drewN m)
                            case atStart => exact ⟨0, m, Nat.zero_le _, rfl, rfl, rfl⟩
                            case round =>
                              clear m
                              obtain ⟨k, m, hk, rfl, rfl, rfl⟩ := hrel
                              by_cases hkL : k < L i
                              · have hkz : (k : Int) < (L i : Int) := by omega
                                obtain ⟨e1, e2, hz⟩ := hA i hiG k hkL
                                rw [← hF'.since.cell (World.block_lt_of_cell? _ _ e2)] at e2
                                rw [e1] at q3
                                have hrem := rem_nat (Z i k) n
                                have hxn : Z i k % n < n := Nat.mod_lt _ hn
                                have q4 := hF'.top.cell hxn
                                have q5 := (hF'.suc i hiG).cell hkL
                                have p1 := neq52 ⟨w.heap.size + 1 + Z i k % n, 0, none⟩
                                generalize hxx : Z i k % n = x at *
                                generalize hzz : Z i k = z at *
                                have hnz : ¬ (n : Int) = 0 := by omega
                                have hxz : (x : Int) < (n : Int) := by omega
                                clear hxx hzz e1 hrow hA
                                go_wp2_with fail
                                go_quiet (fail)
                                go_wp2
                                go_roundg (L i - (k + 1))
                                case measure => go_light; omega
                                case rel => go_light; exact ⟨k + 1, m + nq, hkL, rfl, by simp, by simp⟩
                              · have hkz : ¬ (k : Int) < (L i : Int) := by omega
                                go_wp2
                                go_roundg (n - (i + 1))
                                case measure => go_light; omega
                                case rel => go_light; exact ⟨i + 1, m, hin, rfl, by simp, rfl⟩
                          · have higz : ¬ (i : Int) < (G : Int) := by omega
                            have b5 : w'.cell? ⟨w.heap.size + 1 + i, 4, none⟩ = some (.slice none 0 0) := by rw [b4]; simp [sv, hiG]
                            clear b4
                            go_wp2
                            refine wp_loop_rounds 1 ?_
                            rw [rounds_succ]
                            go_wp2
                            go_roundg (n - (i + 1))
                            case measure => go_light; omega
                            case rel => go_light; exact ⟨i + 1, m, hin, rfl, by simp, rfl⟩
                        · have hiz : ¬ (i : Int) < (n : Int) := by omega
                          go_wp2
                          go_ret
                          exact ⟨rfl, (hF'.drewN m).since⟩
end Go.Proofs.Ybulkexmza
