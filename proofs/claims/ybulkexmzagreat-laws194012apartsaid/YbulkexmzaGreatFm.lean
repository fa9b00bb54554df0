/-
  A FRAME BY ITS SLOTS: frm N f: N slots, slot s holds f s. A large frame is then as light as what is known of it.
-/
import Derived.Test.YbulkexmzaGreatRe
namespace Go.Proofs.YbulkexmzaGreat
open Go.RowKit

def frm (N : Nat) (f : Nat → Value) : Act := ⟨Array.ofFn (n := N) fun i => f i.val, []⟩
def fup (f : Nat → Value) (d : Nat) (v : Value) : Nat → Value := fun s => if s = d then v else f s

theorem fup_at (f : Nat → Value) (d : Nat) (v : Value) (s : Nat) : fup f d v s = if s = d then v else f s := rfl
theorem fup_same (f : Nat → Value) (d : Nat) (v : Value) : fup f d v d = v := by simp [fup]
theorem fup_other (f : Nat → Value) (v : Value) {d s : Nat} (h : s ≠ d) : fup f d v s = f s := by simp [fup, h]
theorem frm_getD {N : Nat} {f : Nat → Value} {s : Nat} (h : s < N) : (frm N f).tmps.getD s undef = f s := by simp [frm, Array.getD, h]
theorem frm_eval {N : Nat} {f : Nat → Value} {s : Nat} (h : s < N) : (frm N f).eval (.tmp s) = f s := frm_getD h
theorem frm_put (N : Nat) (f : Nat → Value) (d : Nat) (v : Value) : (frm N f).put (some d) v = frm N (fup f d v) := by
  have h : (frm N f).tmps.setIfInBounds d v = (frm N (fup f d v)).tmps := by
    apply Array.ext
    · simp [frm]
    · intro i h1 h2
      by_cases e : d = i
      · subst e; simp [frm, fup]
      · rw [Array.getElem_setIfInBounds_ne (by simpa using h1) e]
        simp [frm, fup, Ne.symm e]
  show (⟨(frm N f).tmps.setIfInBounds d v, _⟩ : Act) = _
  rw [h]; rfl
theorem frm_put_none (N : Nat) (f : Nat → Value) (v : Value) : (frm N f).put none v = frm N f := rfl
theorem frm_size (N : Nat) (f : Nat → Value) : (frm N f).tmps.size = N := by simp [frm]
theorem frm_get {N : Nat} {f : Nat → Value} {s : Nat} (h : s < N) : (frm N f).tmps[s]? = some (f s) := by simp [frm, h]
theorem frm_mk (N : Nat) (f : Nat → Value) (d : Nat) (v : Value) : (⟨(frm N f).tmps.setIfInBounds d v, (frm N f).defers⟩ : Act) = frm N (fup f d v) := frm_put N f d v
/-- What follows region k. -/
def aft (k : Nat) (c : Code) : Option Code := match codeAt k c with
  | some (.seq _ y) => some y
  | _ => none
theorem frm_of (a : Act) (hd : a.defers = []) : a = frm a.tmps.size (fun s => a.tmps.getD s undef) := by
  obtain ⟨t, d⟩ := a
  cases hd
  have : t = (frm t.size (fun s => t.getD s undef)).tmps := by
    apply Array.ext
    · simp [frm]
    · intro i h1 h2
      simp [frm, Array.getD]
  show (⟨t, []⟩ : Act) = ⟨(frm t.size (fun s => t.getD s undef)).tmps, []⟩
  rw [← this]

/-- The frames of N slots, as a variable (the kernel shall not look into them). -/
structure Fr (N : Nat) (F : (Nat → Value) → Act) : Prop where
  get : ∀ f s, s < N → (F f).tmps[s]? = some (f s)
  up : ∀ f d v, (⟨(F f).tmps.setIfInBounds d v, (F f).defers⟩ : Act) = F (fup f d v)
  size : ∀ f, (F f).tmps.size = N
  df : ∀ f, (F f).defers = []
  of : ∀ a : Act, a.tmps.size = N → a.defers = [] → a = F (fun s => a.tmps.getD s undef)
theorem frm_fr (N : Nat) : Fr N (frm N) := ⟨fun _ _ => frm_get, frm_mk N, frm_size N, fun _ => rfl, fun a h1 h2 => by
  have := frm_of a h2
  rwa [h1] at this⟩
section
variable {N : Nat} {F : (Nat → Value) → Act}
theorem Fr.getD (h : Fr N F) (f : Nat → Value) {s : Nat} (hs : s < N) : (F f).tmps.getD s undef = f s := by
  rw [Array.getD_eq_getD_getElem?, h.get f s hs]; rfl
theorem Fr.eval (h : Fr N F) (f : Nat → Value) {s : Nat} (hs : s < N) : (F f).eval (.tmp s) = f s := h.getD f hs
theorem Fr.cond {P : Program} {Q : Exit → Act → World → Prop} {w : World} {f : Nat → Value} {s : Nat} {x y : Code} {t : Bool} (h : Fr N F) (hs : s < N) (hc : f s = .bool t)
    (ht : t = true → x.wp P Q (F f) w) (hf : t = false → y.wp P Q (F f) w) : (Code.cond (.tmp s) x y).wp P Q (F f) w :=
  wp_cond_split ((h.eval f hs).trans hc) ht hf
end

theorem Fr.ret {N : Nat} {F : (Nat → Value) → Act} (hF : Fr N F) {P : Program} {fn : Func} {R : Ending → World → Prop} {f : Nat → Value} {w : World} {v : Value} {t : Nat} (h : fn.results = #[.tmp t]) (ht : t < N) (hv : f t = v) (hR : R (.returned v) w) : bodyPost P fn R .ret (F f) w :=
  bodyPost_ret (results_tmp h _ _ _) (hF.df f) (by rw [hF.getD f ht, hv]; exact hR)
/-- An append of one element, in a list of operations. -/
theorem Fr.app {N : Nat} {F : (Nat → Value) → Act} (hF : Fr N F) {w0 w : World} {K : Nat} {E : Nat → Nat} {B : Nat → Lb} {k t e size bytes : Nat} {len cap : Nat} {q : Nat → Value → Prop} {v : Value} {f : Nat → Value}
    {ops : Array Oper} {rest : List Oper} {o : Oper} {Q : Exit → Act → World → Prop} (ht : Ety t e size bytes) (hgd : o.guard = none) (s x d : Nat) (hd : o.dst = some d) (ho : o.op = .call { callee := .builtin .append, args := #[.tmp s, .tmp x], argTypes := #[t, t] }) (hs : s < N) (hx : x < N)
    (h : Sl E B k e size len cap q v) (hS : St w0 w K E B) (hk : k < K) (es : f s = v) (ad : Addr) (ex : f x = .slice (some ad) 1 1) (ns : List Value) (hnl : ns.length = 1 * size) (hnew : ∀ j u, ns[j]? = some u → w.cell? (ad.add j) = some u) (h1 : ∀ u ∈ ns, u.oneCell' = true) (hlen : len ≤ 100000000000)
    (q' : Nat → Value → Prop) (hq : ∀ i u, i < len * size → q i u → q' i u) (hz : ∀ j u, ns[j]? = some u → q' (len * size + j) u)
    (hK : ∀ g cap' w', Appd w0 w K E B k e size len q' g cap' w' → wpList Ybaz.prog ops Q rest (F (fup f d (.slice (some ⟨g, 0, none⟩) (len + 1) cap'))) w') : wpList Ybaz.prog ops Q (o :: rest) (F f) w :=
  wp_app ht hgd (.tmp s) (.tmp x) ho h hS hk ((hF.eval f hs).trans es) ad ns ((hF.eval f hx).trans ex) hnl hnew h1 hlen q' hq hz (fun g cap' w' ha => by
    have := hF.up f d (.slice (some ⟨g, 0, none⟩) (len + 1) cap')
    rw [hd, show (F f).put (some d) (.slice (some ⟨g, 0, none⟩) (len + 1) cap') = F (fup f d (.slice (some ⟨g, 0, none⟩) (len + 1) cap')) from this]
    exact hK g cap' w' ha)

/-- What an operation waits for, by way of others too. -/
def preB (t : List Oper) : Nat → Oper → Nat → Bool
  | 0, _, _ => false
  | n + 1, o, j => o.after.toList.any fun e => Region.binds .any e && (e.on == j || match t[e.on]? with
    | some o' => preB t n o' j
    | none => false)
theorem preAt {t : List Oper} {l : Nat → Bool} (hc : Closed t l) {j : Nat} : ∀ (n : Nat) (o : Oper), Pre o l → preB t n o j = true → l j = true
  | 0, _, _, h => by simp [preB] at h
  | n + 1, o, hp, h => by
    simp only [preB, List.any_eq_true, Bool.and_eq_true, Bool.or_eq_true] at h
    obtain ⟨e, he, hb, h⟩ := h
    have hl := hp e he hb
    rcases h with h | h
    · have : e.on = j := by simpa using h
      rw [← this]; exact hl
    · cases ho : t[e.on]? with
      | none => rw [ho] at h; cases h
      | some o' =>
        rw [ho] at h
        exact preAt hc n o' (hc _ _ ho hl) h
theorem Closed.not {t : List Oper} {l : Nat → Bool} (hc : Closed t l) {i : Nat} (j : Nat) (n : Nat) (hl : l i = false) (h : (match t[j]? with
    | some o => preB t n o i
    | none => false) = true) : l j = false := by
  cases e : l j
  · rfl
  · cases ho : t[j]? with
    | none => rw [ho] at h; cases h
    | some o =>
      rw [ho] at h
      have := preAt hc n o (hc _ _ ho e) h
      rw [hl] at this; cases this
section
variable {γ : Type} {t : List Oper} {V : Nat → γ → Value} {N : Nat} {F : (Nat → Value) → Act} {f : Nat → Value} {a : Act} {l : Nat → Bool} {g : γ}
theorem Good.oldF (h : Good t V (F f) l g a) (hF : Fr N F) (s : Nat) (hw : wrF t 0 s = none) (hs : s < N) : a.eval (.tmp s) = f s := (h.old s hw).trans (hF.eval f hs)

/-- THE LAW for drawn regions, in frames by slots. -/
theorem region_frm {P : Program} {id : Nat} {Q : Exit → Act → World → Prop} {w : World} (hF : Fr N F) (V : Nat → γ → Value) (M : (Nat → Bool) → γ → World → Prop) (g0 : γ) (hm : P.follows .mixedOrders = true) (hB : envB N t 0 [] = true)
    (h0 : M (fun _ => false) g0 w.drew) (hS : Steps P Q t V M (F f) 0 t)
    (hd : ∀ l g x w, (∀ i, i < t.length → l i = true) → (∀ s j, s < N → wrF t 0 s = some j → x s = V j g) → (∀ s, s < N → wrF t 0 s = none → x s = f s) → M l g w → Q .normal (F x) w) : (Code.region id t.toArray true).wp P Q (F f) w := by
  refine region_env V M N g0 hm (hF.size f) hB h0 hS (fun l g a w hl hG hM => ?_)
  have hsz : a.tmps.size = N := hG.sz.trans (hF.size f)
  rw [hF.of a hsz (hG.df.trans (hF.df f))]
  refine hd l g _ w hl (fun s j hs hj => ?_) (fun s hs hj => ?_) hM
  · have hjl : j < t.length := by
      obtain ⟨o, h1, _⟩ := wrF_some t 0 s j hj
      have := (List.getElem?_eq_some_iff.1 h1).1
      omega
    exact hG.of s j hj (hl j hjl)
  · exact (hG.old s hj).trans (hF.eval f hs)
end
end Go.Proofs.YbulkexmzaGreat
