/-
  The law's own comparisons: eqi (5), eqb (6).
-/
import Derived.Test.YbulkexmzaGreatPf
namespace Go.Proofs.YbulkexmzaGreat
open Go.RowKit
attribute [local go_sem] fup_at
theorem info55x : ∃ j, Ybaz.prog.info? 55 = some j ∧ j.size ≠ 0 := by
  have h : (match Ybaz.prog.info? 55 with
    | some i => Nat.beq i.size 0
    | none => true) = false := by kernel_rfl
  cases hi : Ybaz.prog.info? 55 with
  | none => rw [hi] at h; cases h
  | some i =>
    rw [hi] at h
    refine ⟨i, rfl, fun e => ?_⟩
    have h' : Nat.beq i.size 0 = false := h
    rw [e] at h'; cases h'
theorem info59x : ∃ j, Ybaz.prog.info? 59 = some j ∧ j.size ≠ 0 := by
  have h : (match Ybaz.prog.info? 59 with
    | some i => Nat.beq i.size 0
    | none => true) = false := by kernel_rfl
  cases hi : Ybaz.prog.info? 59 with
  | none => rw [hi] at h; cases h
  | some i =>
    rw [hi] at h
    refine ⟨i, rfl, fun e => ?_⟩
    have h' : Nat.beq i.size 0 = false := h
    rw [e] at h'; cases h'
theorem neq_of_eql {t : TypeId} {a b : Option Addr} {w : World} {x : Bool} (h : (binOp .eql t (.pointer a) (.pointer b)).run Ybaz.prog w = .ok (.bool x) w) : (binOp .neq t (.pointer a) (.pointer b)).run Ybaz.prog w = .ok (.bool (!x)) w := by
  simp only [binOp] at h ⊢
  rw [Sem.run_bind] at h ⊢
  cases hr : (Op.equal t (.pointer a) (.pointer b)).run Ybaz.prog w with
  | ok v w' =>
    rw [hr] at h
    simp only [Result.andThen_ok, Sem.run_pure, Result.ok.injEq, Value.bool.injEq] at h ⊢
    obtain ⟨rfl, rfl⟩ := h
    exact ⟨rfl, rfl⟩
  | _ =>
    rw [hr] at h
    cases h
theorem nq40 (w : World) (a : Addr) : (binOp .neq 40 (.pointer (some a)) (.pointer (some a))).run Ybaz.prog w = .ok (.bool false) w := neq_of_eql (eqp40 w a)
theorem nq50 (w : World) (a : Addr) : (binOp .neq 50 (.pointer (some a)) (.pointer (some a))).run Ybaz.prog w = .ok (.bool false) w := by
  obtain ⟨j, hj, _⟩ := info55x
  exact neq_of_eql (run_eql_ptr_same w a Ybaz.underlying50 hj)
theorem nq56 (w : World) (a : Addr) : (binOp .neq 56 (.pointer (some a)) (.pointer (some a))).run Ybaz.prog w = .ok (.bool false) w := by
  obtain ⟨j, hj, _⟩ := info59x
  exact neq_of_eql (run_eql_ptr_same w a Ybaz.underlying56 hj)
set_option maxHeartbeats 4000000 in
set_option maxRecDepth 100000 in
theorem eqi_t {F : (Nat → Value) → Act} (hF : Fr 26 F) {w : World} {a b : Option Addr} {ga gb n c c' : Nat} {p : Nat → Addr} {f : Nat → Value} {R : Ending → World → Prop} (ha : 0 < n → a = some ⟨ga, 0, none⟩) (hb : 0 < n → b = some ⟨gb, 0, none⟩) (hc : ∀ j, j < n → w.cell? ⟨ga, j, none⟩ = some (.pointer (some (p j))) ∧ w.cell? ⟨gb, j, none⟩ = some (.pointer (some (p j)))) (hn : n ≤ 1000000)
    (h0 : f 0 = .slice a n c) (h1 : f 1 = .slice b n c') (hR : ∀ k, R (.returned (.bool true)) (w.drewN k)) :
    (Ybaz.f5.body.getD .skip).wp Ybaz.prog (bodyPost Ybaz.prog Ybaz.f5 R) (F f) w := by
  conv => arg 2; whnf
  have hget := hF.get
  have hmk := hF.up
  have HR : Hid (∀ k, R (.returned (.bool true)) (w.drewN k)) := hR
  have HC : Hid (∀ j, j < n → w.cell? ⟨ga, j, none⟩ = some (.pointer (some (p j))) ∧ w.cell? ⟨gb, j, none⟩ = some (.pointer (some (p j)))) := hc
  clear hR hc
  refine wp_seq_hid (fun K HK => ?_)
  go_wp2
  refine HK.out _ _ ?_
  clear HK
  refine wp_seq_hid (fun K HK => ?_)
  go_wp2
  refine hF.cond (by omega) rfl (fun hh => by simp at hh) (fun hh => ?_)
  clear hh
  go_wp2
  refine HK.out _ _ ?_
  clear HK
  refine wp_seq_hid (fun K HK => ?_)
  refine wp_seq_hid (fun K2 HK2 => ?_)
  go_wp2
  refine HK2.out _ _ ?_
  clear HK2
  refine wp_block ?_
  refine wp_loop_ghost_k (fun g a' w' => ∃ y, a' = F y ∧ ∃ j k, g + j = n ∧ w' = w.drewN k ∧ y 0 = .slice a n c ∧ y 1 = .slice b n c' ∧ y 12 = .int .i64 (n : Nat) ∧ y 13 = .int .i64 (j : Nat)) n
    ⟨_, rfl, 0, 0, rfl, rfl, by simp [fup_at, h0], by simp [fup_at, h1], by simp [fup_at], by simp [fup_at]⟩ ?_
  clear h0 h1 f
  rintro g _ wk ⟨y, rfl, j, k, hg, hwk, y0, y1, y12, y13⟩ J K3 hJk hK3
  have HW : Hid (wk = w.drewN k) := hwk
  have HJk : Hid (∀ g a' w', (∃ y, a' = F y ∧ ∃ j k, g + j = n ∧ w' = w.drewN k ∧ y 0 = .slice a n c ∧ y 1 = .slice b n c' ∧ y 12 = .int .i64 (n : Nat) ∧ y 13 = .int .i64 (j : Nat)) → J g a' w') := hJk
  have HK3 : Hid (∀ a' w', Handed J g a' w' → K3 a' w') := hK3
  clear hJk hK3 hwk
  refine wp_seq_hid (fun K4 HK4 => ?_)
  go_wp2
  refine HK4.out _ _ ?_
  clear HK4
  refine wp_seq_hid (fun K4 HK4 => ?_)
  refine hF.cond (by omega) rfl (fun hh => ?_) (fun hh => ?_)
  · have hj : j < n := by simpa using hh
    clear hh
    go_wp2
    refine HK4.out _ _ ?_
    clear HK4
    obtain rfl := ha (by omega)
    obtain rfl := hb (by omega)
    obtain ⟨kc, kd⟩ := HC.out j hj
    have kc' : wk.cell? ⟨ga, j, none⟩ = some (.pointer (some (p j))) := by rw [HW.out]; exact kc
    have kd' : wk.cell? ⟨gb, j, none⟩ = some (.pointer (some (p j))) := by rw [HW.out]; exact kd
    have hq : ∀ w, (binOp .neq 50 (.pointer (some (p j))) (.pointer (some (p j)))).run Ybaz.prog w = .ok (.bool false) w := fun w => nq50 w _
    clear kc kd
    refine wp_seq_hid (fun K4 HK4 => ?_)
    refine wp_block ?_
    refine wp_seq_hid (fun K5 HK5 => ?_)
    go_wp2
    refine HK5.out _ _ ?_
    clear HK5
    refine wp_seq_hid (fun K5 HK5 => ?_)
    go_still (by kernel_rfl)
    refine HK5.out _ _ ?_
    clear HK5
    refine hF.cond (by omega) rfl (fun hh => by simp at hh) (fun hh => ?_)
    go_wp2
    refine HK4.out _ _ ?_
    clear HK4
    go_wp2
    refine HK3.out _ _ ⟨g - 1, by omega, HJk.out _ _ _ ⟨_, rfl, j + 1, k + 1, by omega, by rw [HW.out]; rfl, by simp [fup_at, y0], by simp [fup_at, y1], by simp [fup_at, y12], by simp [fup_at]⟩⟩
  · have hj : j = n := by
      have : ¬ j < n := by simpa using hh
      omega
    subst hj
    clear hh HK3 HJk HK4
    go_wp2
    refine HK.out _ _ ?_
    clear HK
    go_wp2
    exact hF.ret (t := 4) (v := .bool true) rfl (by omega) (by simp [fup_at]) (by rw [HW.out]; exact HR.out k)
theorem eqi_any {w : World} {a b : Option Addr} {ga gb n c c' : Nat} {p : Nat → Addr} (ha : 0 < n → a = some ⟨ga, 0, none⟩) (hb : 0 < n → b = some ⟨gb, 0, none⟩) (hc : ∀ j, j < n → w.cell? ⟨ga, j, none⟩ = some (.pointer (some (p j))) ∧ w.cell? ⟨gb, j, none⟩ = some (.pointer (some (p j)))) (hn : n ≤ 1000000) :
    Calls Ybaz.prog 5 #[.slice a n c, .slice b n c'] w fun e w' => e = .returned (.bool true) ∧ ∃ k, w' = w.drewN k := by
  refine calls_of_wp Ybaz.func5 rfl ?_
  rw [(frm_fr 26).of (Act.mk _ _) (by simp [Ybaz.ntmps5]) rfl]
  exact eqi_t (frm_fr 26) (c := c) (c' := c') ha hb hc hn (by simp) (by simp) (fun k => ⟨rfl, k, rfl⟩)
set_option maxHeartbeats 4000000 in
set_option maxRecDepth 100000 in
theorem eqb_t {F : (Nat → Value) → Act} (hF : Fr 26 F) {w : World} {a b : Option Addr} {ga gb n c c' : Nat} {p : Nat → Addr} {f : Nat → Value} {R : Ending → World → Prop} (ha : 0 < n → a = some ⟨ga, 0, none⟩) (hb : 0 < n → b = some ⟨gb, 0, none⟩) (hc : ∀ j, j < n → w.cell? ⟨ga, j, none⟩ = some (.pointer (some (p j))) ∧ w.cell? ⟨gb, j, none⟩ = some (.pointer (some (p j)))) (hn : n ≤ 1000000)
    (h0 : f 0 = .slice a n c) (h1 : f 1 = .slice b n c') (hR : ∀ k, R (.returned (.bool true)) (w.drewN k)) :
    (Ybaz.f6.body.getD .skip).wp Ybaz.prog (bodyPost Ybaz.prog Ybaz.f6 R) (F f) w := by
  conv => arg 2; whnf
  have hget := hF.get
  have hmk := hF.up
  have HR : Hid (∀ k, R (.returned (.bool true)) (w.drewN k)) := hR
  have HC : Hid (∀ j, j < n → w.cell? ⟨ga, j, none⟩ = some (.pointer (some (p j))) ∧ w.cell? ⟨gb, j, none⟩ = some (.pointer (some (p j)))) := hc
  clear hR hc
  refine wp_seq_hid (fun K HK => ?_)
  go_wp2
  refine HK.out _ _ ?_
  clear HK
  refine wp_seq_hid (fun K HK => ?_)
  go_wp2
  refine hF.cond (by omega) rfl (fun hh => by simp at hh) (fun hh => ?_)
  clear hh
  go_wp2
  refine HK.out _ _ ?_
  clear HK
  refine wp_seq_hid (fun K HK => ?_)
  refine wp_seq_hid (fun K2 HK2 => ?_)
  go_wp2
  refine HK2.out _ _ ?_
  clear HK2
  refine wp_block ?_
  refine wp_loop_ghost_k (fun g a' w' => ∃ y, a' = F y ∧ ∃ j k, g + j = n ∧ w' = w.drewN k ∧ y 0 = .slice a n c ∧ y 1 = .slice b n c' ∧ y 12 = .int .i64 (n : Nat) ∧ y 13 = .int .i64 (j : Nat)) n
    ⟨_, rfl, 0, 0, rfl, rfl, by simp [fup_at, h0], by simp [fup_at, h1], by simp [fup_at], by simp [fup_at]⟩ ?_
  clear h0 h1 f
  rintro g _ wk ⟨y, rfl, j, k, hg, hwk, y0, y1, y12, y13⟩ J K3 hJk hK3
  have HW : Hid (wk = w.drewN k) := hwk
  have HJk : Hid (∀ g a' w', (∃ y, a' = F y ∧ ∃ j k, g + j = n ∧ w' = w.drewN k ∧ y 0 = .slice a n c ∧ y 1 = .slice b n c' ∧ y 12 = .int .i64 (n : Nat) ∧ y 13 = .int .i64 (j : Nat)) → J g a' w') := hJk
  have HK3 : Hid (∀ a' w', Handed J g a' w' → K3 a' w') := hK3
  clear hJk hK3 hwk
  refine wp_seq_hid (fun K4 HK4 => ?_)
  go_wp2
  refine HK4.out _ _ ?_
  clear HK4
  refine wp_seq_hid (fun K4 HK4 => ?_)
  refine hF.cond (by omega) rfl (fun hh => ?_) (fun hh => ?_)
  · have hj : j < n := by simpa using hh
    clear hh
    go_wp2
    refine HK4.out _ _ ?_
    clear HK4
    obtain rfl := ha (by omega)
    obtain rfl := hb (by omega)
    obtain ⟨kc, kd⟩ := HC.out j hj
    have kc' : wk.cell? ⟨ga, j, none⟩ = some (.pointer (some (p j))) := by rw [HW.out]; exact kc
    have kd' : wk.cell? ⟨gb, j, none⟩ = some (.pointer (some (p j))) := by rw [HW.out]; exact kd
    have hq : ∀ w, (binOp .neq 40 (.pointer (some (p j))) (.pointer (some (p j)))).run Ybaz.prog w = .ok (.bool false) w := fun w => nq40 w _
    clear kc kd
    refine wp_seq_hid (fun K4 HK4 => ?_)
    refine wp_block ?_
    refine wp_seq_hid (fun K5 HK5 => ?_)
    go_wp2
    refine HK5.out _ _ ?_
    clear HK5
    refine wp_seq_hid (fun K5 HK5 => ?_)
    go_still (by kernel_rfl)
    refine HK5.out _ _ ?_
    clear HK5
    refine hF.cond (by omega) rfl (fun hh => by simp at hh) (fun hh => ?_)
    go_wp2
    refine HK4.out _ _ ?_
    clear HK4
    go_wp2
    refine HK3.out _ _ ⟨g - 1, by omega, HJk.out _ _ _ ⟨_, rfl, j + 1, k + 1, by omega, by rw [HW.out]; rfl, by simp [fup_at, y0], by simp [fup_at, y1], by simp [fup_at, y12], by simp [fup_at]⟩⟩
  · have hj : j = n := by
      have : ¬ j < n := by simpa using hh
      omega
    subst hj
    clear hh HK3 HJk HK4
    go_wp2
    refine HK.out _ _ ?_
    clear HK
    go_wp2
    exact hF.ret (t := 4) (v := .bool true) rfl (by omega) (by simp [fup_at]) (by rw [HW.out]; exact HR.out k)
theorem eqb_any {w : World} {a b : Option Addr} {ga gb n c c' : Nat} {p : Nat → Addr} (ha : 0 < n → a = some ⟨ga, 0, none⟩) (hb : 0 < n → b = some ⟨gb, 0, none⟩) (hc : ∀ j, j < n → w.cell? ⟨ga, j, none⟩ = some (.pointer (some (p j))) ∧ w.cell? ⟨gb, j, none⟩ = some (.pointer (some (p j)))) (hn : n ≤ 1000000) :
    Calls Ybaz.prog 6 #[.slice a n c, .slice b n c'] w fun e w' => e = .returned (.bool true) ∧ ∃ k, w' = w.drewN k := by
  refine calls_of_wp Ybaz.func6 rfl ?_
  rw [(frm_fr 26).of (Act.mk _ _) (by simp [Ybaz.ntmps6]) rfl]
  exact eqb_t (frm_fr 26) (c := c) (c' := c') ha hb hc hn (by simp) (by simp) (fun k => ⟨rfl, k, rfl⟩)
end Go.Proofs.YbulkexmzaGreat
