/-
  newDominance (38): its entry, and the whole.
-/
import Derived.Test.YbulkexmzaGreatUm
import Derived.Laws.EntriesVeiled
namespace Go.Proofs.YbulkexmzaGreat
open Go.RowKit
attribute [local go_sem] fup_at

theorem mty70 : Mty 70 4 (.bool false) := ⟨Ybaz.underlying70, ⟨1, by kernel_rfl, by omega⟩, rfl⟩
theorem cntV_neg (n : Nat) : cntV (fun _ => -1) n = 0 := by
  induction n with
  | zero => rfl
  | succ n ih => simp [cntV, ih]

set_option maxHeartbeats 4000000 in
set_option maxRecDepth 100000 in
theorem t0 {F : (Nat → Value) → Act} (hF : Fr 577 F) {w0 : World} {n L0 pb qb fb : Nat} {p0 q0 : Nat → Nat} {f : Nat → Value} {bk : Nat → Nat} {sc : Nat → Option Nat} {R : Ending → World → Prop}
    (hC : Cfg w0 fb n bk sc) (hPr : Pr w0 n L0 pb qb p0 q0) (hL : L0 ≤ 100000000) (hn : n ≤ 100000) (hn1 : 1 ≤ n) (h0 : f 0 = .pointer (some ⟨fb, 0, none⟩)) (h1 : f 1 = .slice (some ⟨pb, 0, none⟩) (n + 1) (n + 1)) (h2 : f 2 = .slice (some ⟨qb, 0, none⟩) L0 L0)
    (hR : ∀ w' dp, DomOk w0 w' n dp → R (.returned (.pointer (some ⟨dp, 0, none⟩))) w') :
    (Ybaz.f38.body.getD .skip).wp Ybaz.prog (bodyPost Ybaz.prog Ybaz.f38 R) (F f) w0 := by
  conv => arg 2; whnf
  have hget := hF.get
  have hmk := hF.up
  have HR : Hid (∀ w' dp, DomOk w0 w' n dp → R (.returned (.pointer (some ⟨dp, 0, none⟩))) w') := hR
  clear hR
  have s0 := (St.start w0 (fun _ => 0) (fun _ => any1 0)).new #[.pointer (some ⟨fb, 0, none⟩)] 56 0 1 (.inr ⟨rfl, rfl⟩) (bx 56 (.pointer (some ⟨fb, 0, none⟩))) rfl rfl (fun i v hv => by
    match i, hv with
    | 0, hv => simp at hv; exact hv.symm)
  refine wp_seq_hid (fun K HK => ?_)
  go_wp2
  refine HK.out _ _ ?_
  clear HK K
  obtain ⟨a0, ha0⟩ : ∃ a, a = w0.heap.size := ⟨_, rfl⟩
  have kf : (w0.alloc (.cells #[.pointer (some ⟨fb, 0, none⟩)] 56)).cell? ⟨a0, 0, none⟩ = some (.pointer (some ⟨fb, 0, none⟩)) := by rw [ha0]; exact s0.box (k := 0) (by omega) rfl
  obtain ⟨bb, bo, bc, kb0, _⟩ := hC.blocks
  have kb := old_cell s0.since kb0
  rw [← ha0]
  rw [← ha0] at s0
  clear kb0 ha0
  generalize w0.alloc (.cells #[.pointer (some ⟨fb, 0, none⟩)] 56) = w1 at s0 kf kb ⊢
  have HS0 : Hid (St w0 w1 1 (upd (fun _ => 0) 0 a0) (upd (fun _ => any1 0) 0 (bx 56 (.pointer (some ⟨fb, 0, none⟩))))) := s0
  clear s0
  refine wp_seq_hid (fun K HK => ?_)
  go_wp2
  refine HK.out _ _ ?_
  clear HK K kf kb
  refine wp_seq_hid (fun K HK => ?_)
  go_wp2
  refine HK.out _ _ ?_
  clear HK K
  have hmake := run_mk mty70 n n (Nat.le_refl _) (by omega)
  refine wp_seq_hid (fun K HK => ?_)
  go_wp2
  refine HK.out _ _ ?_
  clear HK K
  have s1 := HS0.out.make (.bool false) n 4 1 2 (.inr ⟨rfl, rfl⟩)
  have hz1 : (w1.alloc (.cells (madeCells #[.bool false] n) 4)).heap.size = w1.heap.size + 1 := World.size_alloc _ _
  obtain ⟨cs, hcs⟩ : ∃ cs : Array Value, cs = #[.slice (some ⟨w1.heap.size, 0, none⟩) n n, .slice none 0 0, .slice none 0 0, .slice none 0 0, .slice none 0 0, .slice none 0 0, .slice none 0 0, .slice none 0 0, .slice none 0 0, .slice none 0 0, .slice none 0 0, .slice none 0 0, .slice none 0 0, .slice none 0 0, .slice none 0 0, .slice none 0 0, .slice none 0 0, .slice none 0 0, .slice none 0 0, .slice none 0 0, .slice none 0 0] := ⟨_, rfl⟩
  have s2 := s1.new cs 130 2 3 (.inr ⟨rfl, rfl⟩) (vals 130 21 (fun i => cs.getD i undef)) rfl (by rw [hcs]; rfl) (fun i v hv => by show v = cs.getD i undef; rw [Array.getD_eq_getD_getElem?, hv]; rfl)
  have hD0 : cs.getD 0 undef = .slice (some ⟨w1.heap.size, 0, none⟩) n n := by rw [hcs]; rfl
  rw [← hcs]
  rw [hz1] at s2
  obtain ⟨a1, ha1⟩ : ∃ a, a = w1.heap.size := ⟨_, rfl⟩
  obtain ⟨a2, ha2⟩ : ∃ a, a = w1.heap.size + 1 := ⟨_, rfl⟩
  rw [← ha1] at hD0
  have hs2 : St w0 ((w1.alloc (.cells (madeCells #[.bool false] n) 4)).alloc (.cells cs 130)) 3 (upd (upd (upd (fun _ => 0) 0 a0) 1 a1) 2 a2) (upd (upd (upd (fun _ => any1 0) 0 (bx 56 (.pointer (some ⟨fb, 0, none⟩)))) 1 ⟨4, n, fun _ u => u = .bool false⟩) 2 (vals 130 21 (fun i => cs.getD i undef))) := by rw [ha1, ha2]; exact s2
  rw [← ha2]
  clear s1 s2 hz1 hcs HS0 hmake
  generalize (w1.alloc (.cells (madeCells #[.bool false] n) 4)).alloc (.cells cs 130) = w2 at hs2 ⊢
  have s3 := hs2.new #[.int .i64 (-1)] 3 3 4 (.inr ⟨rfl, rfl⟩) (arr 1 (fun _ => -1)) rfl rfl (fun i v hv => by
    match i, hv with
    | 0, hv => simp at hv; exact hv.symm)
  have kt : (w2.alloc (.cells #[.int .i64 (-1)] 3)).cell? ⟨w2.heap.size, 0, none⟩ = some (.int .i64 (-1)) := s3.arr (k := 3) (by omega) rfl (i := 0) (by omega)
  have HC : Hid _ := repeat20 (w := w2.alloc (.cells #[.int .i64 (-1)] 3)) (b := w2.heap.size) (c := 1) (-1) n (by omega) kt
  have HS3 : Hid (St w0 (w2.alloc (.cells #[.int .i64 (-1)] 3)) 4 _ _) := s3
  clear hs2 s3 kt ha1 ha2
  refine wp_seq_hid (fun K HK => ?_)
  go_wp2_with (go_at_call 20; refine Calls.mono HC.out ?_; rintro e w3 ⟨rfl, hsn, hrow⟩; dsimp only)
  refine HK.out _ _ ?_
  clear HK HC
  have hz2 : (w2.alloc (.cells #[.int .i64 (-1)] 3)).heap.size = w2.heap.size + 1 := World.size_alloc _ _
  have s4 := HS3.out.made hsn (Nat.le_refl _) hrow 4 5 (.inr ⟨rfl, rfl⟩)
  rw [hz2] at s4
  have s5 := s4.new #[.slice (some ⟨w2.heap.size + 1, 0, none⟩) n n] 46 5 6 (.inr ⟨rfl, rfl⟩) (bx 46 (.slice (some ⟨w2.heap.size + 1, 0, none⟩) n n)) rfl rfl (fun i v hv => by
    match i, hv with
    | 0, hv => simp at hv; exact hv.symm)
  obtain ⟨a3, ha3⟩ : ∃ a, a = w2.heap.size := ⟨_, rfl⟩
  obtain ⟨a4, ha4⟩ : ∃ a, a = w2.heap.size + 1 := ⟨_, rfl⟩
  obtain ⟨a5, ha5⟩ : ∃ a, a = w3.heap.size := ⟨_, rfl⟩
  rw [← ha4, ← ha5, ← ha3] at s5
  rw [← ha4, ← ha5, ← ha3]
  clear s4 HS3 hrow hsn hz2 ha3 ha4 ha5
  generalize w3.alloc (.cells #[.slice (some ⟨a4, 0, none⟩) n n] 46) = w4 at s5 ⊢
  -- vertex and parent
  have s6 := s5.new #[.int .i64 (n : Nat)] 3 6 7 (.inr ⟨rfl, rfl⟩) (gl 3 1 1 1 (qv n)) rfl rfl (fun i v hv _ => by
    match i, hv with
    | 0, hv => simp at hv; exact ⟨n, hv.symm, fun _ => rfl, fun h => absurd h (Nat.lt_irrefl _)⟩)
  have s7 := s6.new #[.int .i64 (-1)] 3 7 8 (.inr ⟨rfl, rfl⟩) (gl 3 1 1 1 qp) rfl rfl (fun i v hv _ => by
    match i, hv with
    | 0, hv => simp at hv; exact ⟨-1, hv.symm, fun _ => rfl, fun h => absurd h (Nat.lt_irrefl _)⟩)
  have HS7 : Hid (St w0 ((w4.alloc (.cells #[.int .i64 (n : Nat)] 3)).alloc (.cells #[.int .i64 (-1)] 3)) 8 _ _) := s7
  clear s5 s6 s7
  refine wp_seq_hid (fun K HK => ?_)
  go_wp2
  refine HK.out _ _ ?_
  clear HK
  have hz3 : (w4.alloc (.cells #[.int .i64 (n : Nat)] 3)).heap.size = w4.heap.size + 1 := World.size_alloc _ _
  have hz4 : ((w4.alloc (.cells #[.int .i64 (n : Nat)] 3)).alloc (.cells #[.int .i64 (-1)] 3)).heap.size = w4.heap.size + 1 + 1 := by rw [World.size_alloc, World.size_alloc]
  have hz5 : (((w4.alloc (.cells #[.int .i64 (n : Nat)] 3)).alloc (.cells #[.int .i64 (-1)] 3)).alloc (.cells #[.slice (some ⟨w4.heap.size, 0, none⟩) 1 1] 46)).heap.size = w4.heap.size + 1 + 1 + 1 := by rw [World.size_alloc, World.size_alloc, World.size_alloc]
  have s8 := HS7.out.new #[.slice (some ⟨w4.heap.size, 0, none⟩) 1 1] 46 8 9 (.inr ⟨rfl, rfl⟩) (bx 46 (.slice (some ⟨w4.heap.size, 0, none⟩) 1 1)) rfl rfl (fun i v hv => by
    match i, hv with
    | 0, hv => simp at hv; exact hv.symm)
  have s9 := s8.new #[.slice (some ⟨w4.heap.size + 1, 0, none⟩) 1 1] 46 9 10 (.inr ⟨rfl, rfl⟩) (bx 46 (.slice (some ⟨w4.heap.size + 1, 0, none⟩) 1 1)) rfl rfl (fun i v hv => by
    match i, hv with
    | 0, hv => simp at hv; exact hv.symm)
  rw [hz3, hz4, hz5] at s9
  obtain ⟨a6, ha6⟩ : ∃ a, a = w4.heap.size := ⟨_, rfl⟩
  obtain ⟨a7, ha7⟩ : ∃ a, a = w4.heap.size + 1 := ⟨_, rfl⟩
  obtain ⟨a8, ha8⟩ : ∃ a, a = w4.heap.size + 1 + 1 := ⟨_, rfl⟩
  obtain ⟨a9, ha9⟩ : ∃ a, a = w4.heap.size + 1 + 1 + 1 := ⟨_, rfl⟩
  rw [← ha9, ← ha8, ← ha7, ← ha6] at s9
  rw [← ha9, ← ha8, ← ha7, ← ha6]
  clear hz3 hz4 hz5 s8 HS7 ha6 ha7 ha8 ha9
  generalize (((w4.alloc (.cells #[.int .i64 (n : Nat)] 3)).alloc (.cells #[.int .i64 (-1)] 3)).alloc (.cells #[.slice (some ⟨a6, 0, none⟩) 1 1] 46)).alloc (.cells #[.slice (some ⟨a7, 0, none⟩) 1 1] 46) = w5 at s9 ⊢
  -- post
  have hmake : ∀ w, (Instr.makeSlice 46 (.int .i64 0) (.int .i64 (n : Nat))).run Ybaz.prog w = .ok (.slice (some ⟨w.heap.size, 0, none⟩) 0 n) (w.alloc (.cells (madeCells #[.int .i64 0] n) 3)) := fun w => run_mk mty46 0 n (Nat.zero_le _) (by omega) w
  have HS9 : Hid (St w0 w5 10 _ _) := s9
  clear s9
  refine wp_seq_hid (fun K HK => ?_)
  go_wp2
  refine HK.out _ _ ?_
  clear HK hmake
  have s10 := HS9.out.make (.int .i64 0) n 3 10 11 (.inr ⟨rfl, rfl⟩)
  have hz6 : (w5.alloc (.cells (madeCells #[.int .i64 0] n) 3)).heap.size = w5.heap.size + 1 := World.size_alloc _ _
  have s11 := s10.new #[.slice (some ⟨w5.heap.size, 0, none⟩) 0 n] 46 11 12 (.inr ⟨rfl, rfl⟩) (bx 46 (.slice (some ⟨w5.heap.size, 0, none⟩) 0 n)) rfl rfl (fun i v hv => by
    match i, hv with
    | 0, hv => simp at hv; exact hv.symm)
  rw [hz6] at s11
  obtain ⟨a10, ha10⟩ : ∃ a, a = w5.heap.size := ⟨_, rfl⟩
  obtain ⟨a11, ha11⟩ : ∃ a, a = w5.heap.size + 1 := ⟨_, rfl⟩
  rw [← ha11, ← ha10] at s11
  rw [← ha11, ← ha10]
  clear hz6 s10 HS9 ha10 ha11
  generalize (w5.alloc (.cells (madeCells #[.int .i64 0] n) 3)).alloc (.cells #[.slice (some ⟨a10, 0, none⟩) 0 n] 46) = w6 at s11 ⊢
  -- stack
  have s12 := s11.new #[.slice none 0 0] 156 12 13 (.inr ⟨rfl, rfl⟩) (bx 156 (.slice none 0 0)) rfl rfl (fun i v hv => by
    match i, hv with
    | 0, hv => simp at hv; exact hv.symm)
  obtain ⟨a12, ha12⟩ : ∃ a, a = w6.heap.size := ⟨_, rfl⟩
  rw [← ha12] at s12
  have HS12 : Hid (St w0 (w6.alloc (.cells #[.slice none 0 0] 156)) 13 _ _) := s12
  clear s11 s12
  refine wp_seq_hid (fun K HK => ?_)
  go_wp2
  refine HK.out _ _ ?_
  clear HK
  rw [← ha12]
  clear ha12
  generalize w6.alloc (.cells #[.slice none 0 0] 156) = w7 at HS12 ⊢
  -- reach
  refine wp_seq_hid (fun K HK => ?_)
  go_wp2
  refine HK.out _ _ ?_
  clear HK
  refine wp_seq_hid (fun K HK => ?_)
  go_wp2
  refine HK.out _ _ ?_
  clear HK
  have s13 := HS12.out.new #[.func (.func 57) #[] #[.pointer (some ⟨a8, 0, none⟩), .pointer (some ⟨a5, 0, none⟩), .pointer (some ⟨a9, 0, none⟩), .pointer (some ⟨a12, 0, none⟩)]] 159 13 14 (.inr ⟨rfl, rfl⟩) (bx 159 (.func (.func 57) #[] #[.pointer (some ⟨a8, 0, none⟩), .pointer (some ⟨a5, 0, none⟩), .pointer (some ⟨a9, 0, none⟩), .pointer (some ⟨a12, 0, none⟩)])) rfl rfl (fun i v hv => by
    match i, hv with
    | 0, hv => simp at hv; exact hv.symm)
  have s14 := s13.perm 14 (fun k => match k with
    | 0 => 5
    | 1 => 8
    | 2 => 9
    | 3 => 11
    | 4 => 12
    | 5 => 4
    | 6 => 6
    | 7 => 7
    | 8 => 10
    | 9 => 3
    | 10 => 13
    | 11 => 0
    | 12 => 2
    | _ => 1) (by decide) (by decide)
  have s15 := s14.recast (fun k => match k with
    | 0 => bx 46 (.slice (some ⟨a4, 0, none⟩) n n)
    | 1 => bx 46 (.slice (some ⟨a6, 0, none⟩) 1 1)
    | 2 => bx 46 (.slice (some ⟨a7, 0, none⟩) 1 1)
    | 3 => bx 46 (.slice (some ⟨a10, 0, none⟩) 0 n)
    | 4 => bx 156 (.slice none 0 0)
    | 5 => arr n (fun _ => -1)
    | 6 => gl 3 1 1 1 (qv n)
    | 7 => gl 3 1 1 1 qp
    | 8 => gl 3 1 0 n (ql [])
    | 9 => arr 1 (fun _ => -1)
    | 10 => bx 159 (.func (.func 57) #[] #[.pointer (some ⟨a8, 0, none⟩), .pointer (some ⟨a5, 0, none⟩), .pointer (some ⟨a9, 0, none⟩), .pointer (some ⟨a12, 0, none⟩)])
    | 11 => bx 56 (.pointer (some ⟨fb, 0, none⟩))
    | 12 => vals 130 21 (fun i => cs.getD i undef)
    | _ => bools n) (fun k hk => by
    match k, hk with
    | 0, _ => exact same_lb rfl
    | 1, _ => exact same_lb rfl
    | 2, _ => exact same_lb rfl
    | 3, _ => exact same_lb rfl
    | 4, _ => exact same_lb rfl
    | 5, _ => exact same_lb rfl
    | 6, _ => exact same_lb rfl
    | 7, _ => exact same_lb rfl
    | 8, _ => exact ⟨rfl, by show n * 1 = n; omega, fun i v _ hv hi => by have : i < 0 * 1 := hi; omega⟩
    | 9, _ => exact same_lb rfl
    | 10, _ => exact same_lb rfl
    | 11, _ => exact same_lb rfl
    | 12, _ => exact same_lb rfl
    | 13, _ => exact ⟨rfl, rfl, fun i v _ hv => ⟨false, hv⟩⟩
    | k + 14, hk => exact absurd hk (by omega))
  have hds : Sx w0 _ _ _ n 1 (fun _ => -1) [] (fun i => cs.getD i undef) fb := ⟨⟨s15, rfl, rfl, ⟨_, 1, rfl, .inr ⟨rfl, rfl, by omega, by unfold maxLen; omega⟩⟩, ⟨_, 1, rfl, .inr ⟨rfl, rfl, by omega, by unfold maxLen; omega⟩⟩, ⟨_, n, rfl, .inr ⟨rfl, rfl, Nat.zero_le _, by unfold maxLen; omega⟩⟩, ⟨_, 0, rfl, .inl ⟨rfl, rfl⟩⟩, fun b _ => ⟨by omega, by omega⟩, by rw [cntV_neg], fun _ h => (by simp at h), fun _ h => (by simp at h), by simp⟩, rfl, rfl, rfl, rfl, hD0⟩
  refine t10 hF hC hPr hL hn hds ⟨by simp [fup_at, h1], by simp [fup_at, h2], by simp [fup_at], by simp [fup_at], by simp [fup_at]; rfl, by simp [fup_at]; rfl, by simp [fup_at]; rfl, by simp [fup_at]; rfl, by simp [fup_at]; rfl, by simp [fup_at]; exact ⟨rfl, rfl, rfl, rfl, rfl⟩⟩ (fun w' h => HR.out w' _ h) hn1 (by omega)
end Go.Proofs.YbulkexmzaGreat
