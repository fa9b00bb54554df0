/-
  THE WALKS over thrift.Reader's short (17), rawVarint (12), varint (9).
-/
import Derived.Test.YbulkexmwwFmtZz
import Derived.Deep.QuietTactic
import Derived.BigQuiet
namespace Go.Proofs.YbulkexmwwFmt
open Go.RowKit

set_option maxHeartbeats 400000 in
theorem short_any (rb n c : Nat) (ao : Option Addr) (a0 : Addr) (w : World)
    (h0 : w.cell? ⟨rb, 0, none⟩ = some (.slice ao n c)) (hg0 : w.cell? ⟨0, 0, none⟩ = some (.iface 58 (.pointer (some a0)))) :
    Calls Ybaf.prog 17 #[.pointer (some ⟨rb, 0, none⟩)] w fun e w' =>
      e = .returned (.iface 41 (.pointer (some ⟨w.heap.size, 0, none⟩))) ∧ w' = (w.alloc (.cells #[.int .i64 n, .iface 58 (.pointer (some a0))] 44)).drew := by
  go_enter Ybaf.func17, Ybaf.ntmps17
  go_wp2
  go_region
  all_goals (go_wp2; go_ret; exact ⟨rfl, rfl⟩)

/-- The slice behind the reader's place. -/
theorem slice22 (b off n c k : Nat) (h : k < n) (hc : n ≤ c) (w : World) :
    (Instr.slice 22 (.slice (some ⟨b, off, none⟩) n c) (some (.int .i64 k)) none none).run Ybaf.prog w = .ok (.slice (some ⟨b, off + k, none⟩) (n - k) (c - k)) w := by
  have h1 : k ≤ n := by omega
  have h2 : ¬ c = k := by omega
  simp [go_sem, h1, h2]

theorem slice22_end (ao : Option Addr) (n c : Nat) (hc : n ≤ c) (hn : ao = none → n = 0 ∧ c = 0) :
    ∃ A, ∀ w, (Instr.slice 22 (.slice ao n c) (some (.int .i64 n)) none none).run Ybaf.prog w = .ok (.slice A 0 (c - n)) w := by
  cases ao with
  | none =>
    obtain ⟨rfl, rfl⟩ := hn rfl
    exact ⟨none, fun w => by kernel_rfl⟩
  | some a => exact ⟨_, fun w => by simp [go_sem]; rfl⟩

/-- What rawVarint leaves. -/
def RawPost (D : Int × Int × Nat) (rb n k : Nat) (a0 a1 : Addr) (w : World) (e : Ending) (w' : World) : Prop :=
  (D.2.2 = 0 ∧ ∃ g, w.heap.size ≤ g ∧ e = .returned (.tuple #[.int .u64 0, .iface 41 (.pointer (some ⟨g, 0, none⟩))]) ∧ w'.cell? ⟨g, 0, none⟩ = some (.int .i64 n) ∧ w'.cell? ⟨g, 1, none⟩ = some (.iface 58 (.pointer (some a0))) ∧ Below w.heap.size w w') ∨
  (D.2.2 = 1 ∧ ∃ g, w.heap.size ≤ g ∧ e = .returned (.tuple #[.int .u64 0, .iface 41 (.pointer (some ⟨g, 0, none⟩))]) ∧ w'.cell? ⟨g, 0, none⟩ = some (.int .i64 k) ∧ w'.cell? ⟨g, 1, none⟩ = some (.iface 58 (.pointer (some a1))) ∧ Below w.heap.size w w') ∨
  (D.2.2 = 2 ∧ e = .returned (.tuple #[.int .u64 D.1, .nilIface]) ∧ Below w.heap.size (w.setCell ⟨rb, 1, none⟩ (.int .i64 (k + D.2.1))) w')

/-- What varint leaves. -/
def VarPost (D : Int × Int × Nat) (rb n k : Nat) (a0 a1 : Addr) (w : World) (e : Ending) (w' : World) : Prop :=
  (D.2.2 = 0 ∧ ∃ g, w.heap.size ≤ g ∧ e = .returned (.tuple #[.int .i64 0, .iface 41 (.pointer (some ⟨g, 0, none⟩))]) ∧ w'.cell? ⟨g, 0, none⟩ = some (.int .i64 n) ∧ w'.cell? ⟨g, 1, none⟩ = some (.iface 58 (.pointer (some a0))) ∧ Below w.heap.size w w') ∨
  (D.2.2 = 1 ∧ ∃ g, w.heap.size ≤ g ∧ e = .returned (.tuple #[.int .i64 0, .iface 41 (.pointer (some ⟨g, 0, none⟩))]) ∧ w'.cell? ⟨g, 0, none⟩ = some (.int .i64 k) ∧ w'.cell? ⟨g, 1, none⟩ = some (.iface 58 (.pointer (some a1))) ∧ Below w.heap.size w w') ∨
  (D.2.2 = 2 ∧ e = .returned (.tuple #[.int .i64 (zz D.1), .nilIface]) ∧ Below w.heap.size (w.setCell ⟨rb, 1, none⟩ (.int .i64 (k + D.2.1))) w')

theorem belowN (B : Nat) (w : World) (m : Nat) : Below B w (w.drewN m) := ⟨rfl, rfl, rfl, Nat.le_refl _, fun _ _ => rfl⟩

theorem errblock (w : World) (m : Nat) (x y : Value) (t : TypeId) :
    ((w.drewN m).alloc (.cells #[x, y] t)).drew.cell? ⟨w.heap.size, 0, none⟩ = some x ∧ ((w.drewN m).alloc (.cells #[x, y] t)).drew.cell? ⟨w.heap.size, 1, none⟩ = some y ∧ Below w.heap.size w ((w.drewN m).alloc (.cells #[x, y] t)).drew :=
  ⟨World.cell?_alloc_at (w := w.drewN m) #[x, y] t w.heap.size 0 rfl, World.cell?_alloc_at (w := w.drewN m) #[x, y] t w.heap.size 1 rfl, ((belowN _ w m).alloc (Nat.le_refl _) _).drew⟩

set_option maxHeartbeats 400000 in
/-- rawVarint, bytes at hand. -/
theorem raw_some (rb b off n c k : Nat) (zs : List Int) (a0 a1 : Addr) (w : World) (hk : k < n) (hcap : n ≤ c) (hz : n ≤ zs.length) (hmax : n ≤ 1048576)
    (hc : ∀ j, j < n → w.cell? ⟨b, off + j, none⟩ = some (.int .u8 (zs.getD j 0)))
    (hr : ∀ j : Nat, 0 ≤ zs[j]?.getD 0 ∧ zs[j]?.getD 0 ≤ 255)
    (h0 : w.cell? ⟨rb, 0, none⟩ = some (.slice (some ⟨b, off, none⟩) n c)) (h1 : w.cell? ⟨rb, 1, none⟩ = some (.int .i64 k)) (hf : w.frozen? ⟨rb, 1, none⟩ = false)
    (hg0 : w.cell? ⟨0, 0, none⟩ = some (.iface 58 (.pointer (some a0)))) (hg1 : w.cell? ⟨1, 0, none⟩ = some (.iface 58 (.pointer (some a1)))) :
    Calls Ybaf.prog 12 #[.pointer (some ⟨rb, 0, none⟩)] w fun e w' => RawPost (dec 0 0 ((zs.take n).drop k)) rb n k a0 a1 w e w' := by
  have hs := slice22 b off n c k hk hcap
  have hkn : (k : Int) ≤ n := by omega
  have hnc : (n : Int) ≤ c := by omega
  have e1 : (zs.drop k).take (n - k) = (zs.take n).drop k := by rw [List.drop_take]
  have hU := fun w2 (hw : ∀ j, j < n → w2.cell? ⟨b, off + j, none⟩ = some (.int .u8 (zs.getD j 0))) => uvarint_any b (off + k) (n - k) (c - k) (zs.drop k) w2 (by simp; omega) (by omega) (fun j hj => by rw [Nat.add_assoc]; rw [hw (k + j) (by omega)]; simp [List.getD_eq_getElem?_getD, List.getElem?_drop]) (fun j => by simpa [List.getElem?_drop] using hr (k + j))
  rw [e1] at hU
  have HU : Hid _ := hU
  clear hU e1
  have hd := dec_n ((zs.take n).drop k) 0 0 (by omega)
  have hl : ((zs.take n).drop k).length ≤ n := by simp; omega
  generalize hD : dec 0 0 ((zs.take n).drop k) = D at *
  generalize ((zs.take n).drop k).length = ln at *
  clear hD
  obtain ⟨x, nn, st⟩ := D
  simp only [decV] at HU
  simp only at hd
  rcases hd with ⟨rfl, rfl⟩ | ⟨rfl, hneg⟩ | ⟨rfl, hp1, hp2⟩
  · simp only [if_neg (show ¬ (0 = 2) by decide)] at HU
    go_enter Ybaf.func12, Ybaf.ntmps12
    go_wp2
    go_quiet ((go_at_call 16; exact Calls.quiet_of_same (HU.out _ (fun j hj => by simpa using hc j hj))))
    go_wp2_with (go_at_call 17; refine (short_any rb n c _ a0 _ (by simpa using h0) (by simpa using hg0)).mono ?_; rintro e w' ⟨rfl, rfl⟩)
    go_ret2
    exact .inl ⟨rfl, w.heap.size, Nat.le_refl _, rfl, errblock w _ _ _ _⟩
  · simp only [if_neg (show ¬ (1 = 2) by decide)] at HU
    have hn0 : (nn == 0) = false := beq_eq_false_iff_ne.2 (by omega)
    go_enter Ybaf.func12, Ybaf.ntmps12
    go_wp2
    go_quiet ((go_at_call 16; exact Calls.quiet_of_same (HU.out _ (fun j hj => by simpa using hc j hj))))
    go_wp2
    go_region
    all_goals (go_wp2; go_ret2; exact .inr (.inl ⟨rfl, w.heap.size, Nat.le_refl _, rfl, errblock w nq _ _ _⟩))
  · simp only at HU
    have hn0 : (nn == 0) = false := beq_eq_false_iff_ne.2 (by omega)
    have hn1 : 0 ≤ nn := by omega
    go_enter Ybaf.func12, Ybaf.ntmps12
    go_wp2
    go_quiet ((go_at_call 16; exact Calls.quiet_of_same (HU.out _ (fun j hj => by simpa using hc j hj))))
    go_wp2
    go_ret2
    refine .inr (.inr ⟨rfl, ?_, ?_⟩)
    · rfl
    · exact (belowN _ (w.setCell _ _) _)

set_option maxHeartbeats 400000 in
/-- rawVarint at the end of the bytes. -/
theorem raw_end (rb n c : Nat) (ao : Option Addr) (L : List Int) (hL : L = []) (a0 a1 : Addr) (w : World) (hcap : n ≤ c) (hn : ao = none → n = 0 ∧ c = 0)
    (h0 : w.cell? ⟨rb, 0, none⟩ = some (.slice ao n c)) (h1 : w.cell? ⟨rb, 1, none⟩ = some (.int .i64 n))
    (hg0 : w.cell? ⟨0, 0, none⟩ = some (.iface 58 (.pointer (some a0)))) :
    Calls Ybaf.prog 12 #[.pointer (some ⟨rb, 0, none⟩)] w fun e w' => RawPost (dec 0 0 L) rb n n a0 a1 w e w' := by
  obtain ⟨A, hA⟩ := slice22_end ao n c hcap hn
  subst hL
  have HU : Hid (∀ w2, Calls Ybaf.prog 16 #[.slice A 0 (c - n)] w2 fun e w' => e = .returned (.tuple #[.int .u64 0, .int .i64 0]) ∧ w' = w2) := fun w2 => uvarint_empty A (c - n) w2
  clear hn
  go_enter Ybaf.func12, Ybaf.ntmps12
  go_wp2
  go_quiet ((go_at_call 16; exact Calls.quiet_of_same (HU.out _)))
  go_wp2_with (go_at_call 17; refine (short_any rb n c _ a0 _ (by simpa using h0) (by simpa using hg0)).mono ?_; rintro e w' ⟨rfl, rfl⟩)
  go_ret2
  exact .inl ⟨rfl, w.heap.size, Nat.le_refl _, rfl, errblock w nq _ _ _⟩

set_option maxHeartbeats 400000 in
theorem varint_of (rv : Value) (D : Int × Int × Nat) (rb n k : Nat) (a0 a1 : Addr) (w : World) (hu0 : 0 ≤ D.1) (hu1 : D.1 ≤ 18446744073709551615)
    (h : Hid (Calls Ybaf.prog 12 #[rv] w fun e w' => RawPost D rb n k a0 a1 w e w')) :
    Calls Ybaf.prog 9 #[rv] w fun e w' => VarPost D rb n k a0 a1 w e w' := by
  obtain ⟨x, nn, st⟩ := D
  simp only at hu0 hu1
  have hzz := zz_go x hu0 hu1
  have hz0 : bits BinOp.xor IntKind.i64 0 (wrap64 (-wrap64 (bits BinOp.and IntKind.u64 0 1))) = 0 := zz_go 0 (by omega) (by omega)
  go_enter Ybaf.func9, Ybaf.ntmps9
  go_wp2_with (go_at_call 12; refine (h.out).mono ?_; rintro e w' (⟨hst, g, hg, rfl, hx0, hx1, hB⟩ | ⟨hst, g, hg, rfl, hx0, hx1, hB⟩ | ⟨hst, rfl, hB⟩))
  · go_ret2
    exact .inl ⟨hst, g, hg, by rfl, hx0, hx1, hB⟩
  · go_ret2
    exact .inr (.inl ⟨hst, g, hg, by rfl, hx0, hx1, hB⟩)
  · go_ret2
    exact .inr (.inr ⟨hst, rfl, hB⟩)

end Go.Proofs.YbulkexmwwFmt
