/-
  sink.order (11): frames that hold deferred calls; region 9.
-/
import Derived.Test.YbulkexmzaGreatOc
namespace Go.Proofs.YbulkexmzaGreat
open Go.RowKit Go.Shelf

theorem no_guard {o : Oper} {y : Nat → Option Bool} (h : o.guard = none) : Region.wanted o y = true := by simp [Region.wanted, h]
theorem is_wanted {o : Oper} {t : List Oper} {a : Act} {j s : Nat} {b : Bool} (h : o.guard = some (j, b)) (hs : (t.toArray[j]?).bind (·.dst) = some s) (he : a.eval (.tmp s) = .bool b) : Region.wanted o (yielded t.toArray a.tmps) = true := by
  have h1 : a.tmps[s]? = some (.bool b) := by
    have : a.tmps.getD s undef = .bool b := he
    rw [Array.getD_eq_getD_getElem?] at this
    cases h2 : a.tmps[s]? with
    | none => rw [h2] at this; cases this
    | some v => rw [h2] at this; exact congrArg some this
  have hy : yielded t.toArray a.tmps j = some b := by
    unfold yielded
    rw [hs]
    simp [h1]
  simp [Region.wanted, h, hy]
theorem not_wanted {o : Oper} {t : List Oper} {a : Act} {j s : Nat} {b c : Bool} (h : o.guard = some (j, b)) (hs : (t.toArray[j]?).bind (·.dst) = some s) (he : a.eval (.tmp s) = .bool c) (hne : c ≠ b := by decide) : ¬ Region.wanted o (yielded t.toArray a.tmps) = true := by
  have h1 : a.tmps[s]? = some (.bool c) := by
    have : a.tmps.getD s undef = .bool c := he
    rw [Array.getD_eq_getD_getElem?] at this
    cases h2 : a.tmps[s]? with
    | none => rw [h2] at this; cases this
    | some v => rw [h2] at this; exact congrArg some this
  have hy : yielded t.toArray a.tmps j = some c := by
    unfold yielded
    rw [hs]
    simp [h1]
  simp [Region.wanted, h, hy, hne]

/-- Frames with deferred calls ds. -/
structure Frd (N : Nat) (ds : List Deferred) (F : (Nat → Value) → Act) : Prop where
  get : ∀ f s, s < N → (F f).tmps[s]? = some (f s)
  up : ∀ f d v, (⟨(F f).tmps.setIfInBounds d v, (F f).defers⟩ : Act) = F (fup f d v)
  size : ∀ f, (F f).tmps.size = N
  df : ∀ f, (F f).defers = ds
  of : ∀ a : Act, a.tmps.size = N → a.defers = ds → a = F (fun s => a.tmps.getD s undef)
def frmd (N : Nat) (ds : List Deferred) (f : Nat → Value) : Act := ⟨(frm N f).tmps, ds⟩
theorem frmd_fr (N : Nat) (ds : List Deferred) : Frd N ds (frmd N ds) := by
  refine ⟨fun f s h => frm_get h, fun f d v => ?_, frm_size N, fun _ => rfl, fun a h1 h2 => ?_⟩
  · have := congrArg Act.tmps (frm_mk N f d v)
    show (⟨(frm N f).tmps.setIfInBounds d v, ds⟩ : Act) = ⟨(frm N (fup f d v)).tmps, ds⟩
    exact congrArg (fun t => (⟨t, ds⟩ : Act)) this
  · obtain ⟨t, d⟩ := a
    have h3 := (frm_fr N).of ⟨t, []⟩ h1 rfl
    have h4 := congrArg Act.tmps h3
    show (⟨t, d⟩ : Act) = ⟨_, ds⟩
    have h2' : d = ds := h2
    rw [h2']
    exact congrArg (fun t => (⟨t, ds⟩ : Act)) h4
section
variable {N : Nat} {ds : List Deferred} {F : (Nat → Value) → Act}
theorem Frd.getD (h : Frd N ds F) (f : Nat → Value) {s : Nat} (hs : s < N) : (F f).tmps.getD s undef = f s := by
  rw [Array.getD_eq_getD_getElem?, h.get f s hs]; rfl
theorem Frd.eval (h : Frd N ds F) (f : Nat → Value) {s : Nat} (hs : s < N) : (F f).eval (.tmp s) = f s := h.getD f hs
theorem Frd.cond {P : Program} {Q : Exit → Act → World → Prop} {w : World} {f : Nat → Value} {s : Nat} {x y : Code} {t : Bool} (h : Frd N ds F) (hs : s < N) (hc : f s = .bool t)
    (ht : t = true → x.wp P Q (F f) w) (hf : t = false → y.wp P Q (F f) w) : (Code.cond (.tmp s) x y).wp P Q (F f) w :=
  wp_cond_split ((h.eval f hs).trans hc) ht hf
theorem Frd.app (hF : Frd N ds F) {w0 w : World} {K : Nat} {E : Nat → Nat} {B : Nat → Lb} {k t e size bytes : Nat} {len cap : Nat} {q : Nat → Value → Prop} {v : Value} {f : Nat → Value}
    {ops : Array Oper} {rest : List Oper} {o : Oper} {Q : Exit → Act → World → Prop} (ht : Ety t e size bytes) (hgd : o.guard = none) (s x d : Nat) (hd : o.dst = some d) (ho : o.op = .call { callee := .builtin .append, args := #[.tmp s, .tmp x], argTypes := #[t, t] }) (hs : s < N) (hx : x < N)
    (h : Sl E B k e size len cap q v) (hS : St w0 w K E B) (hk : k < K) (es : f s = v) (ad : Addr) (ex : f x = .slice (some ad) 1 1) (ns : List Value) (hnl : ns.length = 1 * size) (hnew : ∀ j u, ns[j]? = some u → w.cell? (ad.add j) = some u) (h1 : ∀ u ∈ ns, u.oneCell' = true) (hlen : len ≤ 100000000000)
    (q' : Nat → Value → Prop) (hq : ∀ i u, i < len * size → q i u → q' i u) (hz : ∀ j u, ns[j]? = some u → q' (len * size + j) u)
    (hK : ∀ g cap' w', Appd w0 w K E B k e size len q' g cap' w' → wpList Ybaz.prog ops Q rest (F (fup f d (.slice (some ⟨g, 0, none⟩) (len + 1) cap'))) w') : wpList Ybaz.prog ops Q (o :: rest) (F f) w :=
  wp_app ht hgd (.tmp s) (.tmp x) ho h hS hk ((hF.eval f hs).trans es) ad ns ((hF.eval f hx).trans ex) hnl hnew h1 hlen q' hq hz (fun g cap' w' ha => by
    have := hF.up f d (.slice (some ⟨g, 0, none⟩) (len + 1) cap')
    rw [hd, show (F f).put (some d) (.slice (some ⟨g, 0, none⟩) (len + 1) cap') = F (fup f d (.slice (some ⟨g, 0, none⟩) (len + 1) cap')) from this]
    exact hK g cap' w' ha)
end
set_option maxHeartbeats 4000000 in
set_option maxRecDepth 100000 in
theorem o9 {G : List Deferred → (Nat → Value) → Act} (hG : ∀ ds, Frd 175 ds (G ds)) {ds : List Deferred} {w0 w : World} {E : Nat → Nat} {B : Nat → Lb} {n t sb bb kd : Nat} {f : Nat → Value} {Q : Exit → Act → World → Prop}
    (hS : St w0 w 3 E B) (b1 : B 1 = bx 102 (.func (.func 24) #[] #[.pointer (some ⟨E 0, 0, none⟩)])) (b2 : B 2 = zrow 4 n (.bool false)) (ht : t < n) (kid : w0.cell? ⟨sb, 0, none⟩ = some (.int .i64 (t : Nat))) (kkd : w0.cell? ⟨bb, 2, none⟩ = some (.int .u8 (kd : Nat))) (hkd : kd ≠ 1) (h5 : f 5 = .pointer (some ⟨E 1, 0, none⟩)) (h6 : f 6 = .slice (some ⟨E 2, 0, none⟩) n n) (h8 : f 8 = .pointer (some ⟨bb, 0, none⟩)) (h10 : f 10 = .pointer (some ⟨sb, 0, none⟩))
    (hQ : ∀ x w', (∀ s, s < 175 → wrF (opsL (Ybaz.f11.body.bind (regAt 9))) 0 s = none → x s = f s) → St w0 w' 3 E B → Q .normal (G ds x) w') :
    ((Ybaz.f11.body.bind (regAt 9)).getD .skip).wp Ybaz.prog Q (G ds f) w := by
  conv => arg 2; whnf
  have htz : (t : Int) < (n : Int) := by omega
  have HQ : Hid (∀ x w', (∀ s, s < 175 → wrF (opsL (Ybaz.f11.body.bind (regAt 9))) 0 s = none → x s = f s) → St w0 w' 3 E B → Q .normal (G ds x) w') := hQ
  have H0 : Hid (St w0 w.drew 3 E B) := hS.drew
  clear hQ hS
  refine region_envG (γ := Unit) (fun op9 g => match op9 with
    | 0 => .slice (some ⟨E 2, 0, none⟩) n n
    | 1 => .pointer (some ⟨sb, 0, none⟩)
    | 2 => .pointer (some ⟨sb, 0, none⟩)
    | 3 => .pointer (some ⟨sb, 0, none⟩)
    | 4 => .int .i64 (t : Nat)
    | 5 => .slice (some ⟨E 2, 0, none⟩) n n
    | 6 => .pointer (some ⟨sb, 0, none⟩)
    | 7 => .pointer (some ⟨sb, 0, none⟩)
    | 8 => .pointer (some ⟨sb, 0, none⟩)
    | 9 => .int .i64 (t : Nat)
    | 10 => .pointer (some ⟨E 2, t, none⟩)
    | 11 => .bool false
    | 12 => .bool false
    | 13 => .func (.func 24) #[] #[.pointer (some ⟨E 0, 0, none⟩)]
    | 14 => .pointer (some ⟨bb, 0, none⟩)
    | 15 => .pointer (some ⟨sb, 0, none⟩)
    | 16 => .bool false
    | 17 => .bool false
    | 18 => .pointer (some ⟨E 2, t, none⟩)
    | 19 => undef
    | _ => undef) (fun _ _ w' => St w0 w' 3 E B) 175 () (by kernel_rfl) ((hG ds).size f) (by kernel_rfl) H0.out ?_ ?_
  · refine ⟨?_, ?_, ?_, ?_, ?_, ?_, ?_, ?_, ?_, ?_, ?_, ?_, ?_, ?_, ?_, ?_, ?_, ?_, ?_, ?_, trivial⟩
    · intro l g a w' K hp hc hl hgd hM hK
      rw [if_pos (no_guard rfl)]
      have e6 : a.eval (.tmp 6) = .slice (some ⟨E 2, 0, none⟩) n n := (hgd.old 6 (by kernel_rfl)).trans (((hG ds).eval f (by omega)).trans h6)
      clear hc hp hgd
      unfold Oper.wp; generalize a.eval = ρ at *; go_simp; exact hK g w' (fun _ _ => rfl) hM
    · intro l g a w' K hp hc hl hgd hM hK
      rw [if_pos (no_guard rfl)]
      have e10 : a.eval (.tmp 10) = .pointer (some ⟨sb, 0, none⟩) := (hgd.old 10 (by kernel_rfl)).trans (((hG ds).eval f (by omega)).trans h10)
      clear hc hp hgd
      unfold Oper.wp; generalize a.eval = ρ at *; go_simp; exact hK g w' (fun _ _ => rfl) hM
    · intro l g a w' K hp hc hl hgd hM hK
      rw [if_pos (no_guard rfl)]
      have e48 : a.eval (.tmp 48) = .pointer (some ⟨sb, 0, none⟩) := hgd.of 48 1 (by kernel_rfl) (preAt hc 20 _ hp (by kernel_rfl))
      clear hc hp hgd
      unfold Oper.wp; generalize a.eval = ρ at *; go_simp; exact hK g w' (fun _ _ => rfl) hM
    · intro l g a w' K hp hc hl hgd hM hK
      rw [if_pos (no_guard rfl)]
      have e49 : a.eval (.tmp 49) = .pointer (some ⟨sb, 0, none⟩) := hgd.of 49 2 (by kernel_rfl) (preAt hc 20 _ hp (by kernel_rfl))
      clear hc hp hgd
      unfold Oper.wp; generalize a.eval = ρ at *; go_simp; exact hK g w' (fun _ _ => rfl) hM
    · intro l g a w' K hp hc hl hgd hM hK
      rw [if_pos (no_guard rfl)]
      have e50 : a.eval (.tmp 50) = .pointer (some ⟨sb, 0, none⟩) := hgd.of 50 3 (by kernel_rfl) (preAt hc 20 _ hp (by kernel_rfl))
      have kk := old_cell hM.since kid
      clear hc hp hgd
      unfold Oper.wp; generalize a.eval = ρ at *; go_simp; exact hK g w' (fun _ _ => rfl) hM
    · intro l g a w' K hp hc hl hgd hM hK
      rw [if_pos (no_guard rfl)]
      have e6 : a.eval (.tmp 6) = .slice (some ⟨E 2, 0, none⟩) n n := (hgd.old 6 (by kernel_rfl)).trans (((hG ds).eval f (by omega)).trans h6)
      clear hc hp hgd
      unfold Oper.wp; generalize a.eval = ρ at *; go_simp; exact hK g w' (fun _ _ => rfl) hM
    · intro l g a w' K hp hc hl hgd hM hK
      rw [if_pos (no_guard rfl)]
      have e10 : a.eval (.tmp 10) = .pointer (some ⟨sb, 0, none⟩) := (hgd.old 10 (by kernel_rfl)).trans (((hG ds).eval f (by omega)).trans h10)
      clear hc hp hgd
      unfold Oper.wp; generalize a.eval = ρ at *; go_simp; exact hK g w' (fun _ _ => rfl) hM
    · intro l g a w' K hp hc hl hgd hM hK
      rw [if_pos (no_guard rfl)]
      have e53 : a.eval (.tmp 53) = .pointer (some ⟨sb, 0, none⟩) := hgd.of 53 6 (by kernel_rfl) (preAt hc 20 _ hp (by kernel_rfl))
      clear hc hp hgd
      unfold Oper.wp; generalize a.eval = ρ at *; go_simp; exact hK g w' (fun _ _ => rfl) hM
    · intro l g a w' K hp hc hl hgd hM hK
      rw [if_pos (no_guard rfl)]
      have e54 : a.eval (.tmp 54) = .pointer (some ⟨sb, 0, none⟩) := hgd.of 54 7 (by kernel_rfl) (preAt hc 20 _ hp (by kernel_rfl))
      clear hc hp hgd
      unfold Oper.wp; generalize a.eval = ρ at *; go_simp; exact hK g w' (fun _ _ => rfl) hM
    · intro l g a w' K hp hc hl hgd hM hK
      rw [if_pos (no_guard rfl)]
      have e55 : a.eval (.tmp 55) = .pointer (some ⟨sb, 0, none⟩) := hgd.of 55 8 (by kernel_rfl) (preAt hc 20 _ hp (by kernel_rfl))
      have kk := old_cell hM.since kid
      clear hc hp hgd
      unfold Oper.wp; generalize a.eval = ρ at *; go_simp; exact hK g w' (fun _ _ => rfl) hM
    · intro l g a w' K hp hc hl hgd hM hK
      rw [if_pos (no_guard rfl)]
      have e52 : a.eval (.tmp 52) = .slice (some ⟨E 2, 0, none⟩) n n := hgd.of 52 5 (by kernel_rfl) (preAt hc 20 _ hp (by kernel_rfl))
      have e56 : a.eval (.tmp 56) = .int .i64 (t : Nat) := hgd.of 56 9 (by kernel_rfl) (preAt hc 20 _ hp (by kernel_rfl))
      clear hc hp hgd
      unfold Oper.wp; generalize a.eval = ρ at *; go_simp; exact hK g w' (fun _ _ => rfl) hM
    · intro l g a w' K hp hc hl hgd hM hK
      rw [if_pos (no_guard rfl)]
      have e57 : a.eval (.tmp 57) = .pointer (some ⟨E 2, t, none⟩) := hgd.of 57 10 (by kernel_rfl) (preAt hc 20 _ hp (by kernel_rfl))
      have kk := zrow_cell (by have := hM.row 2 (by omega); rw [b2] at this; exact this) ht
      clear hc hp hgd
      unfold Oper.wp; generalize a.eval = ρ at *; go_simp; exact hK g w' (fun _ _ => rfl) hM
    · intro l g a w' K hp hc hl hgd hM hK
      rw [if_pos (no_guard rfl)]
      have e58 : a.eval (.tmp 58) = .bool false := hgd.of 58 11 (by kernel_rfl) (preAt hc 20 _ hp (by kernel_rfl))
      clear hc hp hgd
      unfold Oper.wp; generalize a.eval = ρ at *; go_simp; exact hK g w' (fun _ _ => rfl) hM
    · intro l g a w' K hp hc hl hgd hM hK
      have eg : a.eval (.tmp 59) = .bool false := hgd.of 59 12 (by kernel_rfl) (preAt hc 20 _ hp (by kernel_rfl))
      rw [if_pos (is_wanted (s := 59) rfl rfl eg)]
      clear eg
      have e5 : a.eval (.tmp 5) = .pointer (some ⟨E 1, 0, none⟩) := (hgd.old 5 (by kernel_rfl)).trans (((hG ds).eval f (by omega)).trans h5)
      have kk := hM.box (k := 1) (by omega) b1
      clear hc hp hgd
      unfold Oper.wp; generalize a.eval = ρ at *; go_simp; exact hK g w' (fun _ _ => rfl) hM
    · intro l g a w' K hp hc hl hgd hM hK
      have eg : a.eval (.tmp 59) = .bool false := hgd.of 59 12 (by kernel_rfl) (preAt hc 20 _ hp (by kernel_rfl))
      rw [if_pos (is_wanted (s := 59) rfl rfl eg)]
      clear eg
      have e8 : a.eval (.tmp 8) = .pointer (some ⟨bb, 0, none⟩) := (hgd.old 8 (by kernel_rfl)).trans (((hG ds).eval f (by omega)).trans h8)
      clear hc hp hgd
      unfold Oper.wp; generalize a.eval = ρ at *; go_simp; exact hK g w' (fun _ _ => rfl) hM
    · intro l g a w' K hp hc hl hgd hM hK
      have eg : a.eval (.tmp 59) = .bool false := hgd.of 59 12 (by kernel_rfl) (preAt hc 20 _ hp (by kernel_rfl))
      rw [if_pos (is_wanted (s := 59) rfl rfl eg)]
      clear eg
      have e10 : a.eval (.tmp 10) = .pointer (some ⟨sb, 0, none⟩) := (hgd.old 10 (by kernel_rfl)).trans (((hG ds).eval f (by omega)).trans h10)
      clear hc hp hgd
      unfold Oper.wp; generalize a.eval = ρ at *; go_simp; exact hK g w' (fun _ _ => rfl) hM
    · intro l g a w' K hp hc hl hgd hM hK
      have eg : a.eval (.tmp 59) = .bool false := hgd.of 59 12 (by kernel_rfl) (preAt hc 20 _ hp (by kernel_rfl))
      rw [if_pos (is_wanted (s := 59) rfl rfl eg)]
      clear eg
      have e60 : a.eval (.tmp 60) = .func (.func 24) #[] #[.pointer (some ⟨E 0, 0, none⟩)] := hgd.of 60 13 (by kernel_rfl) (preAt hc 20 _ hp (by kernel_rfl))
      have e61 : a.eval (.tmp 61) = .pointer (some ⟨bb, 0, none⟩) := hgd.of 61 14 (by kernel_rfl) (preAt hc 20 _ hp (by kernel_rfl))
      have e62 : a.eval (.tmp 62) = .pointer (some ⟨sb, 0, none⟩) := hgd.of 62 15 (by kernel_rfl) (preAt hc 20 _ hp (by kernel_rfl))
      have HC := sunk24 (w := w') (b := bb) (s := sb) (k := kd) (pv := .pointer (some ⟨E 0, 0, none⟩)) (old_cell hM.since kkd) hkd
      have FIN : Hid (K (a.put (some 63) (.bool false)) w'.drew) := hK g w'.drew (fun _ _ => rfl) hM.drew
      clear hK hc hp hgd hM
      unfold Oper.wp; generalize hρ : a.eval = ρ at *; go_simp
      refine Calls.mono HC ?_
      rintro e w'' ⟨rfl, rfl⟩
      exact FIN.out
    · intro l g a w' K hp hc hl hgd hM hK
      rw [if_pos (no_guard rfl)]
      have e59 : a.eval (.tmp 59) = .bool false := hgd.of 59 12 (by kernel_rfl) (preAt hc 20 _ hp (by kernel_rfl))
      have e63 : a.eval (.tmp 63) = .bool false := hgd.of 63 16 (by kernel_rfl) (preAt hc 20 _ hp (by kernel_rfl))
      have ec : ∀ v, a.eval (.const v) = v := fun _ => rfl
      clear hc hp hgd
      unfold Oper.wp; generalize a.eval = ρ at *; go_simp; exact hK g w' (fun _ _ => rfl) hM
    · intro l g a w' K hp hc hl hgd hM hK
      rw [if_pos (no_guard rfl)]
      have e47 : a.eval (.tmp 47) = .slice (some ⟨E 2, 0, none⟩) n n := hgd.of 47 0 (by kernel_rfl) (preAt hc 20 _ hp (by kernel_rfl))
      have e51 : a.eval (.tmp 51) = .int .i64 (t : Nat) := hgd.of 51 4 (by kernel_rfl) (preAt hc 20 _ hp (by kernel_rfl))
      clear hc hp hgd
      unfold Oper.wp; generalize a.eval = ρ at *; go_simp; exact hK g w' (fun _ _ => rfl) hM
    · intro l g a w' K hp hc hl hgd hM hK
      rw [if_pos (no_guard rfl)]
      have e65 : a.eval (.tmp 65) = .pointer (some ⟨E 2, t, none⟩) := hgd.of 65 18 (by kernel_rfl) (preAt hc 20 _ hp (by kernel_rfl))
      have e64 : a.eval (.tmp 64) = .bool false := hgd.of 64 17 (by kernel_rfl) (preAt hc 20 _ hp (by kernel_rfl))
      obtain ⟨u, ku, _⟩ := hM.read 2 (by omega) (i := t) (by rw [b2]; exact ht)
      have kf := hM.frz 2 (by omega) t
      have fin := hK g (w'.setCell ⟨E 2, t, none⟩ (.bool false)) (fun _ _ => rfl) (hM.put 2 (by omega) (by rw [b2]; rfl))
      clear hK hc hp hgd hM
      unfold Oper.wp; generalize a.eval = ρ at *; go_simp; exact fin
  · intro l g a w' hl hgd hM
    rw [(hG ds).of a (hgd.sz.trans ((hG ds).size f)) (hgd.df.trans ((hG ds).df f))]
    refine HQ.out _ w' (fun s hs hw => ?_) hM
    exact (hgd.old s hw).trans ((hG ds).eval f hs)
end Go.Proofs.YbulkexmzaGreat
