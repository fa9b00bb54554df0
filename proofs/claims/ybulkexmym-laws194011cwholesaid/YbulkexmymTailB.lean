/-
  THE WALK over LawS194011CWhole (3), from region 51 on: the checks.
-/
import Derived.Test.YbulkexmymCode
import Derived.Deep.LoopGhost
import Derived.Deep.Light
import Derived.Deep.DeepCutAuto
import Derived.BigQuiet
namespace Go.Proofs.Ybulkexmym
open Go.RowKit

theorem Row.idsAt {w : World} {L : Nat → Nat × Nat} {l : Nat × Nat} {B : Nat} {e : TypeId} {ad : Option Addr} {n c : Nat} {ps : List Nat} (h : Row w L l B e (.slice ad n c) (ids ps)) {N : Nat} (hN : N ≤ ps.length) : IdsAt w ad N (fun j => ((ps.getD j 0 : Nat) : Int)) := by
  intro j hj
  obtain ⟨g, rfl, hc⟩ := h.at (by rw [ids_length]; omega)
  refine ⟨g, rfl, hc j _ ?_⟩
  have hjl : j < ps.length := by omega
  simp [ids, hjl]

theorem len_one (w : World) (mb : Nat) (es : MapEntry) (h : w.heap[mb]? = some (.map #[es] 1)) : (Builtin.len_ #[46] 3 #[.map (some mb)]).run Yba.prog w = .ok (.int .i64 1) w := by
  simp [Builtin.len_, run_underlying Yba.underlying46, run_getObj_map w mb _ _ h]
  rfl

theorem IdsAt.alloc {w : World} {ad : Option Addr} {N : Nat} {f : Nat → Int} (h : IdsAt w ad N f) (o : Obj) : IdsAt (w.alloc o) ad N f := fun j hj => by
  obtain ⟨b, h1, h2⟩ := h j hj
  exact ⟨b, h1, (World.cell?_alloc_lt _ _ _ (World.block_lt_of_cell? _ _ h2)).trans h2⟩

set_option maxHeartbeats 1000000 in
set_option maxRecDepth 1000000 in
theorem tail51 {c0 c1 c2 c4 c5 c6 c7 c8 c11 c15 c16 c17 c18 c19 c20 c24 c25 c26 c27 c28 c29 c30 c31 c32 c33 c34 c35 c36 c37 c38 c39 c40 c41 c42 c43 c44 c45 c46 c47 c48 c49 c50 c51 c52 c53 c54 c55 c56 c57 c58 c59 c60 c61 c62 c63 c64 c65 c66 c67 c68 c69 c70 c71 c72 c73 c74 c75 c76 c77 c78 c79 c80 c81 c82 c83 c84 c85 c86 c87 c88 c89 c90 c91 c92 c93 c94 c95 c96 c97 c98 c99 c100 c101 c102 c103 c104 c105 c106 c107 c108 c109 c110 c111 c112 c113 c114 c115 c116 c117 c118 c119 c120 c121 c122 c123 c124 c125 c126 c127 c128 c129 c130 c131 c132 c133 c134 c135 c136 c137 c138 c139 c140 c141 c142 c143 c144 c145 c146 c147 c148 c149 c150 c151 c152 c153 c154 c155 c156 c157 c158 c159 c160 c161 c162 c163 c164 c165 c166 c167 c168 c169 c170 c171 c172 c173 c174 c175 c176 c177 c178 c179 c180 c181 c182 c183 c184 c185 c186 c187 c188 c189 c190 c191 c192 c193 c194 c195 c196 c197 c198 c199 c200 c201 c202 c203 c204 c205 c206 c207 c208 c209 c210 c211 c212 c213 c214 c215 c216 c217 c218 c219 c220 c221 c222 c223 c224 c225 c226 c227 c228 c229 c230 c231 c232 c233 c234 c235 c236 c237 c238 c239 c240 c241 c242 c243 c244 c245 c246 c247 c248 c249 c250 c251 c252 c253 c254 c255 c256 c257 c258 c259 c260 c261 c262 c263 c264 c265 c266 c267 c268 c269 c270 c271 c272 c273 c274 c275 c276 c277 c278 c279 c280 c281 c282 c283 c284 c285 c286 c287 c288 c289 c290 c291 c292 c293 c294 c295 c296 c297 c298 c299 c300 c301 c302 c303 c304 c305 c306 c307 c308 c309 c310 c311 c312 c313 c314 c315 c316 c317 c318 c319 c320 c321 c322 c323 c324 c325 c326 c327 c328 c329 c330 c331 c332 c333 c334 c335 c336 c337 c338 c339 c340 c341 c342 c343 c344 c345 c346 c347 c348 c349 c350 c351 c352 c353 c354 c355 c356 c357 c358 c359 c360 c361 c362 c363 c364 c365 c366 c367 c368 c369 c370 : Value} {dd : ByteArray} {inb : Bool} {w wx : World} {s10 s11 s12 s13 s14 : Value} {n wi M : Nat} {L : Nat → Nat × Nat} {ob : Nat → Ob} {un : Value} {pv pv' : Nat → Value} {C : Nat → Nat} {nc : Nat} {cv : Value} {ws : List Nat} {mv : Nat → Value}
    (hn : n ≤ 65537) (hi : wi < n) (hwh : (ob wi).whole = wi) (hpt : (ob wi).part = 0) (hM : (ob wi).parts.length = M) (hpv : ∃ pa pc, pv wi = .slice pa M pc ∧ (0 < M → ∃ g, pa = some ⟨g, 0, none⟩))
    (hC : Canon w wx L w.heap.size w.heap.size un (n + 1) (partOb ob n wi dd) pv' C nc cv ws s10 s11 s12 s13 s14 mv) (hX : Ex inb un wx L w.heap.size n ob pv wi) :
    Code.wp Yba.prog ((Yba.f3.body.bind (codeAt 51)).getD .skip) (bodyPost Yba.prog Yba.f3 fun e w' => e = .returned (.bool true) ∧ Below w.heap.size w w') ⟨#[c0, c1, c2, .bool inb, c4, c5, c6, c7, c8, .pointer (some ⟨w.heap.size, 0, none⟩), s10, c11, s12, s13, s14, c15, c16, c17, c18, c19, c20, .int .i64 n, .int .i32 wi, .int .i64 M, c24, c25, c26, c27, c28, c29, c30, c31, c32, c33, c34, c35, c36, c37, c38, c39, c40, c41, c42, c43, c44, c45, c46, c47, c48, c49, c50, c51, c52, c53, c54, c55, c56, c57, c58, c59, c60, c61, c62, c63, c64, c65, c66, c67, c68, c69, c70, c71, c72, c73, c74, c75, c76, c77, c78, c79, c80, c81, c82, c83, c84, c85, c86, c87, c88, c89, c90, c91, c92, c93, c94, c95, c96, c97, c98, c99, c100, c101, c102, c103, c104, c105, c106, c107, c108, c109, c110, c111, c112, c113, c114, c115, c116, c117, c118, c119, c120, c121, c122, c123, c124, c125, c126, c127, c128, c129, c130, c131, c132, c133, c134, c135, c136, c137, c138, c139, c140, c141, c142, c143, c144, c145, c146, c147, c148, c149, c150, c151, c152, c153, c154, c155, c156, c157, c158, c159, c160, c161, c162, c163, c164, c165, c166, c167, c168, c169, c170, c171, c172, c173, c174, c175, c176, c177, c178, c179, c180, c181, c182, c183, c184, c185, c186, c187, c188, c189, c190, c191, c192, c193, c194, c195, c196, c197, c198, c199, c200, c201, c202, c203, c204, c205, c206, c207, c208, c209, c210, c211, c212, c213, c214, c215, c216, c217, c218, c219, c220, c221, c222, c223, c224, c225, c226, c227, c228, c229, c230, c231, c232, c233, c234, c235, c236, c237, c238, c239, c240, c241, c242, c243, c244, c245, c246, c247, c248, c249, c250, c251, c252, c253, c254, c255, c256, c257, c258, c259, c260, c261, c262, c263, c264, c265, c266, c267, c268, c269, c270, c271, c272, c273, c274, c275, c276, c277, c278, c279, c280, c281, c282, c283, c284, c285, c286, c287, c288, c289, c290, c291, c292, c293, c294, c295, c296, c297, c298, c299, c300, c301, c302, c303, c304, c305, c306, c307, c308, c309, c310, c311, c312, c313, c314, c315, c316, c317, c318, c319, c320, c321, c322, c323, c324, c325, c326, c327, c328, c329, c330, c331, c332, c333, c334, c335, c336, c337, c338, c339, c340, c341, c342, c343, c344, c345, c346, c347, c348, c349, c350, c351, c352, c353, c354, c355, c356, c357, c358, c359, c360, c361, c362, c363, c364, c365, c366, c367, c368, c369, c370], []⟩ wx := by
  conv => arg 2; whnf
  obtain ⟨_, _, hA⟩ := hC
  have HA : Hid _ := hA
  have HX : Hid _ := hX
  obtain ⟨d1, dc, hd, hdc⟩ : ∃ g c, s10 = .slice (some ⟨g, 0, none⟩) (n + 1) c ∧ ∀ j u, (dl (partOb ob n wi dd) (n + 1))[j]? = some u → wx.cell? ⟨g, j, none⟩ = some u := by
    obtain ⟨a, c, h⟩ := hA.d.shape
    rw [dl_length] at h
    subst h
    obtain ⟨g, rfl, h⟩ := hA.d.at (by rw [dl_length]; omega)
    exact ⟨g, c, rfl, h⟩
  obtain ⟨o1, oc, ho, hoc⟩ : ∃ g c, s12 = .slice (some ⟨g, 0, none⟩) (n + 1) c ∧ ∀ j u, (ol (partOb ob n wi dd) (n + 1))[j]? = some u → wx.cell? ⟨g, j, none⟩ = some u := by
    obtain ⟨a, c, h⟩ := hA.o.shape
    rw [ol_length] at h
    subst h
    obtain ⟨g, rfl, h⟩ := hA.o.at (by rw [ol_length]; omega)
    exact ⟨g, c, rfl, h⟩
  obtain ⟨n1, npc, hn1, hnc⟩ : ∃ g c, s13 = .slice (some ⟨g, 0, none⟩) (n + 1) c ∧ ∀ j u, (pl (partOb ob n wi dd) (n + 1))[j]? = some u → wx.cell? ⟨g, j, none⟩ = some u := by
    obtain ⟨a, c, h⟩ := hA.p.shape
    rw [pl_length] at h
    subst h
    obtain ⟨g, rfl, h⟩ := hA.p.at (by rw [pl_length]; omega)
    exact ⟨g, c, rfl, h⟩
  obtain ⟨s1, sc, hs, hsc⟩ : ∃ g c, s14 = .slice (some ⟨g, 0, none⟩) (n + 1) c ∧ ∀ j u, (sl mv (n + 1))[j]? = some u → wx.cell? ⟨g, j, none⟩ = some u := by
    obtain ⟨a, c, h⟩ := hA.s.shape
    rw [sl_length] at h
    subst h
    obtain ⟨g, rfl, h⟩ := hA.s.at (by rw [sl_length]; omega)
    exact ⟨g, c, rfl, h⟩
  subst hd ho hn1 hs
  have HD : Hid (∀ j, j < n + 1 → wx.cell? ⟨d1, j, none⟩ = some (.string (partOb ob n wi dd j).desc) ∧ wx.cell? ⟨o1, j, none⟩ = some (.int .i32 (partOb ob n wi dd j).whole) ∧ wx.cell? ⟨n1, j, none⟩ = some (.int .i32 (partOb ob n wi dd j).part) ∧ wx.cell? ⟨s1, j, none⟩ = some (mv j)) :=
    fun j hj => ⟨hdc j _ (by simp [dl, hj]), hoc j _ (by simp [ol, hj]), hnc j _ (by simp [pl, hj]), hsc j _ (by simp [sl, hj])⟩
  clear hdc hoc hnc hsc hA hX
  have HH : Hid ((ob wi).whole = wi ∧ (ob wi).part = 0 ∧ (ob wi).parts.length = M) := ⟨hwh, hpt, hM⟩
  have HP : Hid (∃ pa pc, pv wi = .slice pa M pc ∧ (0 < M → ∃ g, pa = some ⟨g, 0, none⟩)) := hpv
  clear hwh hpt hM hpv
  go_wp2
  go_loopg [25] (n + 1) (fun g s wy => ∃ i m : Nat, i ≤ n + 1 ∧ g = n + 1 - i ∧ s = .int .i64 i ∧ wy = wx.drewN m)
  case atStart => exact ⟨0, 0, Nat.zero_le _, rfl, rfl, rfl⟩
  case round =>
    obtain ⟨i, m, hin, rfl, rfl, rfl⟩ := hrel
    by_cases hlt : i < n + 1
    · have hltz : (i : Int) ≤ (n : Int) := by omega
      obtain ⟨e0, e1, e2, e3⟩ := HD.out i hlt
      have hr := HA.out.g.oc i hlt
      have hin' : i < nc * 1024 := by have := HA.out.g.nle; omega
      have HG : Hid (GInv (wx.drewN m) L w.heap.size w.heap.size un (n + 1) (n + 1) (partOb ob n wi dd) pv' C nc cv) := HA.out.g.keep (T := fun _ => False) ((Keep.refl L _ wx).drewN m) (Agree.refl _ _) (fun _ x => x.elim)
      have o0 : wx.cell? ⟨C (i / 1024), i % 1024 * 9, none⟩ = some (.string (partOb ob n wi dd i).desc) := hr 0 _ rfl
      have o1 : wx.cell? ⟨C (i / 1024), i % 1024 * 9 + 1, none⟩ = some (.int .i32 (partOb ob n wi dd i).whole) := hr 1 _ rfl
      have o2 : wx.cell? ⟨C (i / 1024), i % 1024 * 9 + 2, none⟩ = some (.int .i32 (partOb ob n wi dd i).part) := hr 2 _ rfl
      have o3 : wx.cell? ⟨C (i / 1024), i % 1024 * 9 + 3, none⟩ = some (pv' i) := hr 3 _ rfl
      have o4 : wx.cell? ⟨C (i / 1024), i % 1024 * 9 + 4, none⟩ = some (.bool false) := hr 4 _ rfl
      have o5 : wx.cell? ⟨C (i / 1024), i % 1024 * 9 + 5, none⟩ = some (.bool false) := hr 5 _ rfl
      have o6 : wx.cell? ⟨C (i / 1024), i % 1024 * 9 + 6, none⟩ = some (.slice none 0 0) := hr 6 _ rfl
      have o7 : wx.cell? ⟨C (i / 1024), i % 1024 * 9 + 7, none⟩ = some (.slice none 0 0) := hr 7 _ rfl
      have o8 : wx.cell? ⟨C (i / 1024), i % 1024 * 9 + 8, none⟩ = some (.int .i32 0) := hr 8 _ rfl
      have hpr := HA.out.g.pr i hlt
      have hmr := HA.out.m i hlt
      have hpb := HA.out.g.pb i hlt
      obtain ⟨pa, pc, hpv⟩ := hpr.shape
      obtain ⟨ma, mc, hmv⟩ := hmr.shape
      rw [ids_length] at hpv hmv
      rw [hpv] at o3 hpr
      rw [hmv] at e3 hmr
      have HI1 : Hid (IdsAt wx pa (partOb ob n wi dd i).parts.length (fun j => (((partOb ob n wi dd i).parts.getD j 0 : Nat) : Int))) := hpr.idsAt (Nat.le_refl _)
      have HI2 : Hid (IdsAt wx ma (partOb ob n wi dd i).parts.length (fun j => (((partOb ob n wi dd i).parts.getD j 0 : Nat) : Int))) := hmr.idsAt (Nat.le_refl _)
      clear hr hpr hmr hpv hmv
      generalize (partOb ob n wi dd i).desc = D at *
      generalize (partOb ob n wi dd i).whole = W at *
      generalize (partOb ob n wi dd i).part = P at *
      generalize (fun j => (((partOb ob n wi dd i).parts.getD j 0 : Nat) : Int)) = F at *
      generalize (partOb ob n wi dd i).parts.length = K at *
      have hK : K ≤ 100000 := by omega
      go_upto_region 55 with (go_at_call 8; refine (object_any HG.out i hin').mono ?_; rintro e w' ⟨rfl, hw⟩; cases hw)
      go_quiet (fail)
      go_wp2_with fail
      go_quiet ((go_at_call 9; refine Calls.mono (equal_same pa ma pc mc K F _ hK ?_ ?_) ?_; exact HI1.out; exact HI2.out; rintro e w' ⟨rfl, k, rfl⟩; exact ⟨rfl, _, by rw [World.drewN_drewN, Nat.add_assoc (m + nq)]⟩))
      go_wp2_with fail
      go_roundg (n + 1 - (i + 1))
      case measure => go_light; omega
      case rel => exact ⟨i + 1, _, by omega, rfl, by simp, rfl⟩
    · have hltz : ¬ (i : Int) ≤ (n : Int) := by omega
      have g2 := HA.out.g.g2
      have g3 := HA.out.g.g3
      rcases HX.out with ⟨rfl, rfl⟩ | ⟨rfl, ub, mb, rfl, hu, hm, hold⟩
      · clear HX HD HH HP
        go_wp2
        go_ret
        exact ⟨rfl, HA.out.below.trans ((Keep.refl L (fun _ => False) wx).drewN m |>.below (fun _ _ x => x) HA.out.bsz)⟩
      · have hwl1 : wi < n + 1 := by omega
        obtain ⟨hwh, hpt, hM⟩ := HH.out
        obtain ⟨pa, pc, hpv, hpg⟩ := HP.out
        have hmr := HA.out.m wi hwl1
        simp only [partOb_parts _ _ _ _ _ hi, if_true] at hmr
        obtain ⟨mg, mc, hmv, hmc⟩ : ∃ g c, mv wi = .slice (some ⟨g, 0, none⟩) (M + 1) c ∧ M + 1 ≤ c := by
          rcases hmr.form with ⟨_, q⟩ | ⟨g, c, q1, q2, _⟩
          · have := congrArg List.length q; rw [ids_length] at this; simp at this
          · rw [ids_length, List.length_append, hM] at q1 q2
            exact ⟨g, c, q1, q2⟩
        rw [hmv] at hmr
        have hi2 : IdsAt wx (some ⟨mg, 0, none⟩) M (fun j => ((((ob wi).parts ++ [n]).getD j 0 : Nat) : Int)) := hmr.idsAt (by simp; omega)
        have hi1 : IdsAt wx pa M (fun j => ((((ob wi).parts ++ [n]).getD j 0 : Nat) : Int)) := by
          intro j hj
          obtain ⟨g, rfl⟩ := hpg (by omega)
          refine ⟨g, rfl, ?_⟩
          have hjl : j < (ob wi).parts.length := by omega
          have := (hold g (by rw [hpv]; rfl)).2.2 j (.int .i32 ((ob wi).parts[j] : Nat)) (by simp [ids, hjl])
          rw [this]
          have e : ((ob wi).parts ++ [n]).getD j 0 = (ob wi).parts[j] := by
            rw [List.getD_eq_getElem?_getD, List.getElem?_append_left hjl]; simp [hjl]
          simp only [e]
        obtain ⟨e0, _, _, e3⟩ := HD.out wi hwl1
        rw [partOb_desc _ _ _ _ _ hi, if_neg (by omega)] at e0
        rw [hmv] at e3
        simp only [entry, hwh, hpt, hpv] at hm
        have hiz : (wi : Int) < (n : Int) + 1 := by omega
        have hMn : M ≤ n + 1 := by
          have := HA.out.g.pb wi hwl1
          rw [partOb_parts _ _ _ _ _ hi, if_pos rfl] at this
          simp at this; omega
        have hmcz : (M : Int) ≤ (mc : Int) := by omega
        have HB : Hid (Below w.heap.size w (wx.drewN m)) := HA.out.below.trans ((Keep.refl L (fun _ => False) wx).drewN m |>.below (fun _ _ x => x) HA.out.bsz)
        have hbz : w.heap.size ≤ (wx.drewN m).heap.size := HA.out.bsz
        have k0 : (wx.drewN m).cell? ⟨d1, wi, none⟩ = some (.string (ob wi).desc) := e0
        have k3 : (wx.drewN m).cell? ⟨s1, wi, none⟩ = some (.slice (some ⟨mg, 0, none⟩) (M + 1) mc) := e3
        have u0 : (wx.drewN m).cell? ⟨ub, 0, none⟩ = some (.int .i64 n) := hu.u0
        have u1 : (wx.drewN m).cell? ⟨ub, 1, none⟩ = some (.map (some mb)) := hu.u1
        have u2 : (wx.drewN m).cell? ⟨ub, 2, none⟩ = some (.slice none 0 0) := hu.u2
        have j2 : (wx.drewN m).cell? ⟨w.heap.size, 2, none⟩ = some (.slice none 0 0) := g2
        have j3 : (wx.drewN m).cell? ⟨w.heap.size, 3, none⟩ = some (.pointer (some ⟨ub, 0, none⟩)) := g3
        have hlk := lookup_one (wx.drewN m) mb wi _ hm
        have hln := len_one (wx.drewN m) mb _ hm
        have hI1 : IdsAt (wx.drewN m) pa M (fun j => ((((ob wi).parts ++ [n]).getD j 0 : Nat) : Int)) := hi1
        have hI2 : IdsAt (wx.drewN m) (some ⟨mg, 0, none⟩) M (fun j => ((((ob wi).parts ++ [n]).getD j 0 : Nat) : Int)) := hi2
        clear HX HD HH HP HA hmr hi1 hi2 hwh hpt hM hpv hpg hold hmv hu e0 e3 g2 g3 hm
        generalize wx.drewN m = wy at *
        have hd1 : d1 < wy.heap.size := World.block_lt_of_cell? _ _ k0
        have hs1 : s1 < wy.heap.size := World.block_lt_of_cell? _ _ k3
        generalize (fun j => ((((ob wi).parts ++ [n]).getD j 0 : Nat) : Int)) = F at *
        generalize (ob wi).desc = D at *
        have HI1 : Hid (IdsAt (wy.alloc (.cells #[.string D, .int .i32 wi, .int .i32 0, .slice pa M pc, .bool false, .bool false, .slice none 0 0, .slice none 0 0, .int .i32 0] 42)) pa M F) := hI1.alloc _
        have HI2 : Hid (IdsAt (wy.alloc (.cells #[.string D, .int .i32 wi, .int .i32 0, .slice pa M pc, .bool false, .bool false, .slice none 0 0, .slice none 0 0, .int .i32 0] 42)) (some ⟨mg, 0, none⟩) M F) := hI2.alloc _
        clear hI1 hI2
        go_wp2
        have z0 : (wy.alloc (.cells #[.string D, .int .i32 wi, .int .i32 0, .slice pa M pc, .bool false, .bool false, .slice none 0 0, .slice none 0 0, .int .i32 0] 42)).cell? ⟨wy.heap.size, 0, none⟩ = some (.string D) := World.cell?_alloc_new _ _ _ _
        have z1 : (wy.alloc (.cells #[.string D, .int .i32 wi, .int .i32 0, .slice pa M pc, .bool false, .bool false, .slice none 0 0, .slice none 0 0, .int .i32 0] 42)).cell? ⟨wy.heap.size, 1, none⟩ = some (.int .i32 wi) := World.cell?_alloc_new _ _ _ _
        have z2 : (wy.alloc (.cells #[.string D, .int .i32 wi, .int .i32 0, .slice pa M pc, .bool false, .bool false, .slice none 0 0, .slice none 0 0, .int .i32 0] 42)).cell? ⟨wy.heap.size, 2, none⟩ = some (.int .i32 0) := World.cell?_alloc_new _ _ _ _
        have z3 : (wy.alloc (.cells #[.string D, .int .i32 wi, .int .i32 0, .slice pa M pc, .bool false, .bool false, .slice none 0 0, .slice none 0 0, .int .i32 0] 42)).cell? ⟨wy.heap.size, 3, none⟩ = some (.slice pa M pc) := World.cell?_alloc_new _ _ _ _
        have y0 := alloc_cell (o := .cells #[.string D, .int .i32 wi, .int .i32 0, .slice pa M pc, .bool false, .bool false, .slice none 0 0, .slice none 0 0, .int .i32 0] 42) hd1 k0
        have y3 := alloc_cell (o := .cells #[.string D, .int .i32 wi, .int .i32 0, .slice pa M pc, .bool false, .bool false, .slice none 0 0, .slice none 0 0, .int .i32 0] 42) hs1 k3
        have HB2 : Hid (Below w.heap.size w (wy.alloc (.cells #[.string D, .int .i32 wi, .int .i32 0, .slice pa M pc, .bool false, .bool false, .slice none 0 0, .slice none 0 0, .int .i32 0] 42))) := HB.out.alloc hbz _
        clear k0 k3 hd1 hs1 HB u0 u1 u2 j2 j3 hlk hln hbz
        generalize wy.alloc (.cells #[.string D, .int .i32 wi, .int .i32 0, .slice pa M pc, .bool false, .bool false, .slice none 0 0, .slice none 0 0, .int .i32 0] 42) = wz at *
        generalize wy.heap.size = zb at *
        have hM5 : M ≤ 100000 := by omega
        go_quiet ((go_at_call 9; exact Calls.quiet_of (equal_same pa (some ⟨mg, 0, none⟩) pc mc M F _ hM5 HI1.out HI2.out)))
        go_wp2
        go_ret
        exact ⟨rfl, HB2.out.trans ((Keep.refl L (fun _ => False) wz).drewN nq |>.below (fun _ _ x => x) HB2.out.size)⟩
end Go.Proofs.Ybulkexmym
