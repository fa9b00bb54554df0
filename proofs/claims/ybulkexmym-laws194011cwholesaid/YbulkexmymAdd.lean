/-
  THE WALKS over Graph.add (10), Graph.Add (4).
-/
import Derived.Test.YbulkexmymApp
namespace Go.Proofs.Ybulkexmym
open Go.RowKit

variable {w w1 : World} {L L1 : Nat → Nat × Nat} {B gb : Nat} {un : Value} {ln n : Nat} {ob : Nat → Ob} {pv : Nat → Value} {C : Nat → Nat} {nc : Nat} {cv : Value}

/-- A region that draws its order: its first n operations only read, the others follow in the text's order. -/
theorem region_tail {P : Program} {id : Nat} {Q : Exit → Act → World → Prop} {a : Act} {w : World} {l : List Oper} (n : Nat) (hm : P.follows .mixedOrders = true) (hB : Region.lexTailB .any l.toArray n = true)
    (h : wpStill P l.toArray w.drew (fun a' => wpList P l.toArray Q (l.drop n) a' w.drew) (l.take n) a) : (Code.region id l.toArray true).wp P Q a w :=
  wp_region_still_tail n hm hB h

theorem Added.pre {o : Ob} {w2 : World} (k : Keep L Tg w w1) (ha : Agree w L L1) (h : Added w1 L1 B gb un n ob pv C nc o w2) : Added w L B gb un n ob pv C nc o w2 := by
  obtain ⟨L', C', nc', cv', hG, hI⟩ := h
  exact ⟨L', C', nc', cv', ⟨ha.trans k.size hG.agree, hG.same, hG.le, k.trans ha hG.keep⟩, hI⟩

set_option maxRecDepth 100000 in
set_option maxHeartbeats 1000000 in
theorem add_any (h : GInv w L B gb un n n ob pv C nc cv) (hmax : n < 65540) (d : ByteArray) (wh pt : Nat) :
    Calls Yba.prog 10 #[.pointer (some ⟨gb, 0, none⟩), .agg #[.string d, .int .i32 wh, .int .i32 pt, .slice none 0 0, .bool false, .bool false, .slice none 0 0, .slice none 0 0, .int .i32 0]] w fun e w' =>
      e = .returned (.int .i32 n) ∧ Added w L B gb un n ob pv C nc ⟨d, wh, pt, []⟩ w' := by
  have k0 : Keep L Tg w (w.alloc (.cells #[.string d, .int .i32 wh, .int .i32 pt, .slice none 0 0, .bool false, .bool false, .slice none 0 0, .slice none 0 0, .int .i32 0] 42)).drew := ((Keep.refl L _ w).alloc _).drew
  have a0 : Agree w L (upd L w.heap.size (0, 0)) := Agree.upd w L _ (Nat.le_refl _)
  have H0 : Hid (GInv (w.alloc (.cells #[.string d, .int .i32 wh, .int .i32 pt, .slice none 0 0, .bool false, .bool false, .slice none 0 0, .slice none 0 0, .int .i32 0] 42)) (upd L w.heap.size (0, 0)) B gb un n n ob pv C nc cv) :=
    h.keep (T := fun _ => False) ((Keep.refl L _ w).alloc _) a0 (fun _ x => x.elim)
  have H1 : Hid (GInv (w.alloc (.cells #[.string d, .int .i32 wh, .int .i32 pt, .slice none 0 0, .bool false, .bool false, .slice none 0 0, .slice none 0 0, .int .i32 0] 42)).drew (upd L w.heap.size (0, 0)) B gb un n n ob pv C nc cv) :=
    h.keep (T := fun _ => False) ((Keep.refl L _ w).alloc _).drew a0 (fun _ x => x.elim)
  clear h
  go_enter Yba.func10, Yba.ntmps10
  go_wp2_with (go_at_call 7; refine (len_any H0.out).mono ?_; rintro e w' ⟨rfl, hw⟩; cases hw)
  refine region_tail 4 (by kernel_rfl) (by kernel_rfl) ?_
  simp only [List.take_succ_cons, List.take_zero, List.drop_succ_cons, List.drop_zero]
  iterate 4 still_step
  refine wpStill_nil ?_
  go_wp2_with fail
  refine (append_added H1.out hmax d wh pt).mono ?_
  rintro e w2 ⟨rfl, hA⟩
  have HA : Hid _ := hA
  clear hA
  go_wp2_with fail
  go_ret
  exact ⟨rfl, Added.pre k0 a0 HA.out⟩

set_option maxRecDepth 100000 in
set_option maxHeartbeats 1000000 in
theorem Add_any (h : GInv w L B gb un n n ob pv C nc cv) (hmax : n < 65540) (d : ByteArray) :
    Calls Yba.prog 4 #[.pointer (some ⟨gb, 0, none⟩), .string d] w fun e w' =>
      e = .returned (.int .i32 n) ∧ Added w L B gb un n ob pv C nc ⟨d, n, 0, []⟩ w' := by
  have H0 : Hid _ := h
  clear h
  go_enter Yba.func4, Yba.ntmps4
  go_wp2_with (go_at_call 7; refine (len_any H0.out).mono ?_; rintro e w' ⟨rfl, hw⟩; cases hw)
  refine (add_any H0.out hmax d n 0).mono ?_
  rintro e w2 ⟨rfl, hA⟩
  have HA : Hid _ := hA
  clear hA
  go_wp2_with fail
  go_ret
  exact ⟨rfl, HA.out⟩
end Go.Proofs.Ybulkexmym
