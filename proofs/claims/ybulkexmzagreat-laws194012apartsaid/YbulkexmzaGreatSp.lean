/-
  search (58): the top entry goes from the stack to post (regions 9, 10).
-/
import Derived.Test.YbulkexmzaGreatSe
namespace Go.Proofs.YbulkexmzaGreat
open Go.RowKit

set_option maxHeartbeats 4000000 in
set_option maxRecDepth 100000 in
theorem search_pop {c0 c1 c3 c4 c6 c8 c9 c10 c11 c12 c13 c14 c15 c16 c17 c18 c19 c20 c21 c22 c23 c24 c25 c26 c27 c28 c29 c30 c31 c32 c33 c34 c35 c36 c37 c38 c39 c40 c41 c42 c43 c44 c45 c46 c47 c48 c49 c50 c51 c52 c53 c54 c55 c56 c57 c58 c59 c60 c61 c62 c63 c64 c65 c66 c67 c68 c69 c70 c71 c72 c73 c74 c75 c76 c77 c78 c79 c80 c81 c82 c83 c84 : Value} {w0 w : World} {E : Nat → Nat} {B : Nat → Lb} {n m : Nat} {f : Nat → Int} {s : List (Nat × Nat)} {b x c p3 p4 : Nat} {pst : List Nat} {Q : Exit → Act → World → Prop} (h : Ds w0 w E B n m f (s ++ [(b, x)]) pst) (e3 : E 3 = p3) (e4 : E 4 = p4) (hsl : s.length ≤ 100000) (hn : n ≤ 100000)
    (hb4 : B 4 = bx 156 (.slice (some ⟨E 9, 0, none⟩) (s.length + 1) c)) (hc : s.length + 1 ≤ c) (t0 : w.cell? ⟨E 9, s.length * 2, none⟩ = some (.int .i64 (b : Nat)))
    (hQ : ∀ (u73 u74 u75 u76 u77 u78 u79 u80 u81 u82 u83 u84 : Value) (wa w3 : World) (g d : Nat), Appd w0 wa 14 E B 8 3 1 pst.length (ql (pst ++ [b])) g d w3 → Q .normal ⟨#[c0, c1, .pointer (some ⟨p4, 0, none⟩), c3, c4, .pointer (some ⟨p3, 0, none⟩), c6, .pointer (some ⟨E 9, s.length * 2, none⟩), c8, c9, c10, c11, c12, c13, c14, c15, c16, c17, c18, c19, c20, c21, c22, c23, c24, c25, c26, c27, c28, c29, c30, c31, c32, c33, c34, c35, c36, c37, c38, c39, c40, c41, c42, c43, c44, c45, c46, c47, c48, c49, c50, c51, c52, c53, c54, c55, c56, c57, c58, c59, c60, c61, c62, c63, c64, c65, c66, c67, c68, c69, c70, c71, c72, u73, u74, u75, u76, u77, u78, u79, u80, u81, u82, u83, u84], []⟩ ((w3.setCell ⟨p3, 0, none⟩ (.slice (some ⟨g, 0, none⟩) (pst.length + 1) d)).setCell ⟨p4, 0, none⟩ (.slice (some ⟨E 9, 0, none⟩) s.length c))) :
    Code.wp Ybaz.prog ((Ybaz.f58.body.bind (codeAt 9)).getD .skip) Q ⟨#[c0, c1, .pointer (some ⟨p4, 0, none⟩), c3, c4, .pointer (some ⟨p3, 0, none⟩), c6, .pointer (some ⟨E 9, s.length * 2, none⟩), c8, c9, c10, c11, c12, c13, c14, c15, c16, c17, c18, c19, c20, c21, c22, c23, c24, c25, c26, c27, c28, c29, c30, c31, c32, c33, c34, c35, c36, c37, c38, c39, c40, c41, c42, c43, c44, c45, c46, c47, c48, c49, c50, c51, c52, c53, c54, c55, c56, c57, c58, c59, c60, c61, c62, c63, c64, c65, c66, c67, c68, c69, c70, c71, c72, c73, c74, c75, c76, c77, c78, c79, c80, c81, c82, c83, c84], []⟩ w := by
  conv => arg 2; whnf
  have HQ : Hid (∀ (u73 u74 u75 u76 u77 u78 u79 u80 u81 u82 u83 u84 : Value) (wa w3 : World) (g d : Nat), Appd w0 wa 14 E B 8 3 1 pst.length (ql (pst ++ [b])) g d w3 → Q .normal ⟨#[c0, c1, .pointer (some ⟨p4, 0, none⟩), c3, c4, .pointer (some ⟨p3, 0, none⟩), c6, .pointer (some ⟨E 9, s.length * 2, none⟩), c8, c9, c10, c11, c12, c13, c14, c15, c16, c17, c18, c19, c20, c21, c22, c23, c24, c25, c26, c27, c28, c29, c30, c31, c32, c33, c34, c35, c36, c37, c38, c39, c40, c41, c42, c43, c44, c45, c46, c47, c48, c49, c50, c51, c52, c53, c54, c55, c56, c57, c58, c59, c60, c61, c62, c63, c64, c65, c66, c67, c68, c69, c70, c71, c72, u73, u74, u75, u76, u77, u78, u79, u80, u81, u82, u83, u84], []⟩ ((w3.setCell ⟨p3, 0, none⟩ (.slice (some ⟨g, 0, none⟩) (pst.length + 1) d)).setCell ⟨p4, 0, none⟩ (.slice (some ⟨E 9, 0, none⟩) s.length c))) := hQ
  clear hQ
  subst e3 e4
  obtain ⟨v3, c3', hb3, hP⟩ := h.b3
  have k3 := h.st.box (by omega) hb3
  have k4 := h.st.box (by omega) hb4
  obtain ⟨va, vc, rfl, _⟩ := hP.form
  have hpl : pst.length ≤ 100000 := by
    have h1 : pst.Nodup := (List.nodup_append.1 h.nd).2.1
    have := nodup_le h1 (fun z hz => (h.pv z hz).1)
    omega
  have HS : Hid (St w0 w 14 E B) := h.st
  have HP : Hid (Sl E B 8 3 1 pst.length c3' (ql pst) (.slice va pst.length vc)) := hP
  have hz : ∀ j u, [Value.int .i64 (b : Nat)][j]? = some u → ql (pst ++ [b]) (pst.length * 1 + j) u := fun j u hj => by
    match j, hj with
    | 0, hj => simp at hj; subst hj; exact ⟨b, by simp, rfl⟩
  have l3 : E 3 < w.heap.size := (h.st.row 3 (by omega)).lt
  have l9 : E 9 < w.heap.size := (h.st.row 9 (by omega)).lt
  have n34 : ¬ E 4 = E 3 := fun e => by have := h.st.inj 4 3 (by omega) (by omega) e; omega
  clear h hP
  refine wp_seq_hid (fun K HK => ?_)
  refine wp_normal ?_
  go_region_law ((refine step_app ety3 (by rfl) (.tmp 73) (.tmp 78) (by rfl) HP.out (HS.out.alloc _).drew (by omega) (by rfl) _ [.int .i64 (b : Nat)] (by rfl) rfl (by first | exact news1 _ _ _) (by simp [Value.oneCell']) (by omega) (ql (pst ++ [b])) (fun i u hi hq => ql_snoc (by omega) hq) hz ?_
                  intro g d w3 hap
                  have q3 : w3.cell? ⟨E 3, 0, none⟩ = some (.slice va pst.length vc) := hap.1.box (k := 3) (by omega) hb3
                  have q3f : w3.frozen? ⟨E 3, 0, none⟩ = false := hap.1.frz 3 (by omega) 0
                  have q4 : w3.cell? ⟨E 4, 0, none⟩ = some (.slice (some ⟨E 9, 0, none⟩) (s.length + 1) c) := hap.1.box (k := 4) (by omega) hb4
                  have q4f : w3.frozen? ⟨E 4, 0, none⟩ = false := hap.1.frz 4 (by omega) 0))
  all_goals (show K _ _)
  all_goals refine HK.out _ _ ?_
  all_goals go_wp2
  all_goals (apply HQ.out; exact hap)
end Go.Proofs.YbulkexmzaGreat
