/-
  THE WALK over link.LawS194012BWhole (3), whole.
-/
import Derived.Test.YbulkexmzaTa
namespace Go.Proofs.Ybulkexmza
open Go.RowKit Go.Maps

theorem sumN_le {L : Nat → Nat} {i : Nat} (h : ∀ r, r < i → L r ≤ 140737488351232) : sumN L i ≤ i * 140737488351232 := by
  induction i with
  | zero => exact Nat.le_refl _
  | succ i ih => simp only [sumN]; have := ih (fun r hr => h r (by omega)); have := h i (by omega); omega

set_option maxHeartbeats 8000000 in
set_option maxRecDepth 1000000 in
theorem lawB_any {w : World} {X : Inp} {ra : Option Addr} {rb ro Gc : Nat} {A : Nat → Option Addr} {C AB AO : Nat → Nat} (hI : InM w X ra rb ro A C AB AO) (hGb : X.G ≤ 140737488351232) (hLb : ∀ r, r < X.G → X.L r ≤ 140737488351232)
    (hX : X.G ≤ 4096 → sumN X.L X.G ≤ 65536 → X.Ok) :
    Calls Yba.prog 3 #[.slice ra X.G Gc] w fun e w' => e = .returned (.bool true) ∧ w.Since w.heap.size w' := by
  have HI : Hid (InM w X ra rb ro A C AB AO) := hI
  have HX : Hid (X.G ≤ 4096 → sumN X.L X.G ≤ 65536 → X.Ok) := hX
  have HL : Hid (∀ r, r < X.G → X.L r ≤ 140737488351232) := hLb
  clear hI hX hLb
  by_cases hG : 4096 < X.G
  · have hGz : (4096 : Int) < (X.G : Int) := by omega
    go_enter Yba.func3, Yba.ntmps3
    go_wp2
    go_loopg [3, 4] X.G (fun g s i wx => w = wx ∧ ∃ (r : Nat) (t : Int), r ≤ X.G ∧ g = X.G - r ∧ i = .int .i64 r ∧ s = .int .i64 t)
    case atStart => exact ⟨rfl, 0, 0, Nat.zero_le _, rfl, rfl, rfl⟩
    case round =>
      obtain ⟨rfl, r, t, hr, rfl, rfl, rfl⟩ := hrel
      by_cases hrG : r < X.G
      · obtain rfl := HI.out.ad (by omega)
        have hrz : (r : Int) < (X.G : Int) := by omega
        have q3 := HI.out.c3 r hrG
        have hL := HL.out r hrG
        go_wp2
        go_roundg (X.G - (r + 1))
        case measure => go_light; omega
        case rel => go_light; exact ⟨rfl, r + 1, _, hrG, rfl, by simp, rfl⟩
      · have hrz : ¬ (r : Int) < (X.G : Int) := by omega
        go_wp2
        go_ret
        exact ⟨rfl, .refl _ _⟩
  · have hGz : ¬ (4096 : Int) < (X.G : Int) := by omega
    go_enter Yba.func3, Yba.ntmps3
    refine wp_seq_hid (fun K HK => ?_)
    go_wp2
    refine HK.out _ _ ?_
    clear HK K
    refine wp_seq_hid (fun K HK => ?_)
    go_wp2
    refine HK.out _ _ ?_
    clear HK K
    refine wp_seq_hid (fun K HK => ?_)
    go_wp2
    go_loopg [3, 4] X.G (fun g s i wx => w = wx ∧ ∃ r : Nat, r ≤ X.G ∧ g = X.G - r ∧ i = .int .i64 r ∧ s = .int .i64 ((sumN X.L r : Nat) : Int))
    case atStart => exact ⟨rfl, 0, Nat.zero_le _, rfl, rfl, rfl⟩
    case round =>
      obtain ⟨rfl, r, hr, rfl, rfl, rfl⟩ := hrel
      by_cases hrG : r < X.G
      · obtain rfl := HI.out.ad (by omega)
        have hrz : (r : Int) < (X.G : Int) := by omega
        have q3 := HI.out.c3 r hrG
        have hL := HL.out r hrG
        have hs := sumN_le (L := X.L) (i := r) (fun r' hr' => HL.out r' (by omega))
        have HA : Hid (sumN X.L r + X.L r = sumN X.L (r + 1)) := rfl
        have hs' : sumN X.L r ≤ 576460752303423488 := by omega
        clear hs
        generalize sumN X.L r = s at *
        go_wp2
        go_roundg (X.G - (r + 1))
        case measure => go_light; omega
        case rel => go_light; exact ⟨rfl, r + 1, hrG, rfl, by simp, by rw [← HA.out]; simp⟩
      · have hrz : ¬ (r : Int) < (X.G : Int) := by omega
        obtain rfl : r = X.G := by omega
        have hs := sumN_le (L := X.L) (i := X.G) (fun r' hr' => HL.out r' hr')
        go_wp2
        refine HK.out _ _ ?_
        clear HK
        refine wp_seq_hid (fun K HK => ?_)
        by_cases hbig : 65536 < sumN X.L X.G
        · have hbz : (65536 : Int) < ((sumN X.L X.G : Nat) : Int) := by omega
          go_wp2
          go_ret
          exact ⟨rfl, .refl _ _⟩
        · have hbz : ¬ (65536 : Int) < ((sumN X.L X.G : Nat) : Int) := by omega
          go_wp2
          refine HK.out _ _ ?_
          exact tail8 (HX.out (by omega) (by omega)) HI.out
end Go.Proofs.Ybulkexmza
