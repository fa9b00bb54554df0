/-
  THE WALK over LawS194011CWhole (3), from region 43 on.
-/
import Derived.Test.YbulkexmymTailB
import Derived.Deep.LoopGhost
import Derived.Deep.Light
import Derived.Deep.DeepCutAuto
namespace Go.Proofs.Ybulkexmym
open Go.RowKit

set_option maxHeartbeats 1000000 in
set_option maxRecDepth 1000000 in
theorem tail43 {c0 c1 c4 c5 c6 c7 c8 c15 c16 c17 c18 c19 c20 c24 c25 c26 c27 c28 c29 c30 c31 c32 c33 c34 c35 c36 c37 c38 c39 c40 c41 c42 c43 c44 c45 c46 c47 c48 c49 c50 c51 c52 c53 c54 c55 c56 c57 c58 c59 c60 c61 c62 c63 c64 c65 c66 c67 c68 c69 c70 c71 c72 c73 c74 c75 c76 c77 c78 c79 c80 c81 c82 c83 c84 c85 c86 c87 c88 c89 c90 c91 c92 c93 c94 c95 c96 c97 c98 c99 c100 c101 c102 c103 c104 c105 c106 c107 c108 c109 c110 c111 c112 c113 c114 c115 c116 c117 c118 c119 c120 c121 c122 c123 c124 c125 c126 c127 c128 c129 c130 c131 c132 c133 c134 c135 c136 c137 c138 c139 c140 c141 c142 c143 c144 c145 c146 c147 c148 c149 c150 c151 c152 c153 c154 c155 c156 c157 c158 c159 c160 c161 c162 c163 c164 c165 c166 c167 c168 c169 c170 c171 c172 c173 c174 c175 c176 c177 c178 c179 c180 c181 c182 c183 c184 c185 c186 c187 c188 c189 c190 c191 c192 c193 c194 c195 c196 c197 c198 c199 c200 c201 c202 c203 c204 c205 c206 c207 c208 c209 c210 c211 c212 c213 c214 c215 c216 c217 c218 c219 c220 c221 c222 c223 c224 c225 c226 c227 c228 c229 c230 c231 c232 c233 c234 c235 c236 c237 c238 c239 c240 c241 c242 c243 c244 c245 c246 c247 c248 c249 c250 c251 c252 c253 c254 c255 c256 c257 c258 c259 c260 c261 c262 c263 c264 c265 c266 c267 c268 c269 c270 c271 c272 c273 c274 c275 c276 c277 c278 c279 c280 c281 c282 c283 c284 c285 c286 c287 c288 c289 c290 c291 c292 c293 c294 c295 c296 c297 c298 c299 c300 c301 c302 c303 c304 c305 c306 c307 c308 c309 c310 c311 c312 c313 c314 c315 c316 c317 c318 c319 c320 c321 c322 c323 c324 c325 c326 c327 c328 c329 c330 c331 c332 c333 c334 c335 c336 c337 c338 c339 c340 c341 c342 c343 c344 c345 c346 c347 c348 c349 c350 c351 c352 c353 c354 c355 c356 c357 c358 c359 c360 c361 c362 c363 c364 c365 c366 c367 c368 c369 c370 : Value} {dd : ByteArray} {inb : Bool} {w wx : World} {s12 s13 : Value} {da : Option Addr} {dc wg lw wc' sg sc : Nat} {n wi M : Nat} {L2 : Nat → Nat × Nat} {ob : Nat → Ob} {un : Value} {pv : Nat → Value} {C : Nat → Nat} {nc : Nat} {cv : Value} {ws : List Nat} {mv : Nat → Value} {ma : Option Addr} {mc : Nat}
    (hn : n ≤ 65537) (HW : Hid (∀ x ∈ ws, x < n ∧ (ob x).whole = x ∧ (ob x).part = 0)) (HLW : Hid (ws.length = lw)) (hwl : lw ≤ n) (hir : wi < n) (HWH : Hid ((ob wi).whole = wi ∧ (ob wi).part = 0)) (HM : Hid ((ob wi).parts.length = M)) (HMV : Hid (mv wi = .slice ma M mc)) (hMr : M ≤ n)
    (HPV : Hid (∃ pa pc, pv wi = .slice pa M pc ∧ (0 < M → ∃ g, pa = some ⟨g, 0, none⟩)))
    (hA2 : All w wx L2 w.heap.size w.heap.size un n ob pv C nc cv (dl ob n) (ids ws) (ol ob n) (pl ob n) (sl mv n) (.slice da n dc) (.slice (some ⟨wg, 0, none⟩) lw wc') s12 s13 (.slice (some ⟨sg, 0, none⟩) n sc) n mv (fun i => (ob i).parts)) (hx0 : Ex0 inb un wx L2 w.heap.size n) :
    Code.wp Yba.prog ((Yba.f3.body.bind (codeAt 43)).getD .skip) (bodyPost Yba.prog Yba.f3 fun e w' => e = .returned (.bool true) ∧ Below w.heap.size w w') ⟨#[c0, c1, .string dd, .bool inb, c4, c5, c6, c7, c8, .pointer (some ⟨w.heap.size, 0, none⟩), .slice da n dc, .slice (some ⟨wg, 0, none⟩) lw wc', s12, s13, .slice (some ⟨sg, 0, none⟩) n sc, c15, c16, c17, c18, c19, c20, .int .i64 n, .int .i32 wi, .int .i64 M, c24, c25, c26, c27, c28, c29, c30, c31, c32, c33, c34, c35, c36, c37, c38, c39, c40, c41, c42, c43, c44, c45, c46, c47, c48, c49, c50, c51, c52, c53, c54, c55, c56, c57, c58, c59, c60, c61, c62, c63, c64, c65, c66, c67, c68, c69, c70, c71, c72, c73, c74, c75, c76, c77, c78, c79, c80, c81, c82, c83, c84, c85, c86, c87, c88, c89, c90, c91, c92, c93, c94, c95, c96, c97, c98, c99, c100, c101, c102, c103, c104, c105, c106, c107, c108, c109, c110, c111, c112, c113, c114, c115, c116, c117, c118, c119, c120, c121, c122, c123, c124, c125, c126, c127, c128, c129, c130, c131, c132, c133, c134, c135, c136, c137, c138, c139, c140, c141, c142, c143, c144, c145, c146, c147, c148, c149, c150, c151, c152, c153, c154, c155, c156, c157, c158, c159, c160, c161, c162, c163, c164, c165, c166, c167, c168, c169, c170, c171, c172, c173, c174, c175, c176, c177, c178, c179, c180, c181, c182, c183, c184, c185, c186, c187, c188, c189, c190, c191, c192, c193, c194, c195, c196, c197, c198, c199, c200, c201, c202, c203, c204, c205, c206, c207, c208, c209, c210, c211, c212, c213, c214, c215, c216, c217, c218, c219, c220, c221, c222, c223, c224, c225, c226, c227, c228, c229, c230, c231, c232, c233, c234, c235, c236, c237, c238, c239, c240, c241, c242, c243, c244, c245, c246, c247, c248, c249, c250, c251, c252, c253, c254, c255, c256, c257, c258, c259, c260, c261, c262, c263, c264, c265, c266, c267, c268, c269, c270, c271, c272, c273, c274, c275, c276, c277, c278, c279, c280, c281, c282, c283, c284, c285, c286, c287, c288, c289, c290, c291, c292, c293, c294, c295, c296, c297, c298, c299, c300, c301, c302, c303, c304, c305, c306, c307, c308, c309, c310, c311, c312, c313, c314, c315, c316, c317, c318, c319, c320, c321, c322, c323, c324, c325, c326, c327, c328, c329, c330, c331, c332, c333, c334, c335, c336, c337, c338, c339, c340, c341, c342, c343, c344, c345, c346, c347, c348, c349, c350, c351, c352, c353, c354, c355, c356, c357, c358, c359, c360, c361, c362, c363, c364, c365, c366, c367, c368, c369, c370], []⟩ wx := by
  conv => arg 2; whnf
  have hne : ¬ wi = n := by omega
  have hiz : (wi : Int) < (n : Int) := by omega
  have hmax : n < 65540 := by omega
  have HA2 : Hid _ := hA2
  have HX0 : Hid _ := hx0
  clear hA2 hx0
  go_upto_region 44 with (go_at_call 5; refine (all_last HA2.out HX0.out hmax wi hir HWH.out.1 dd).mono ?_; rintro e w3 ⟨rfl, hL⟩)
  obtain ⟨L3, pv3, C3, nc3, cv3, hA3, hx3⟩ := hL
  have HA3 : Hid _ := hA3
  have HX3 : Hid (Ex inb un w3 L3 w.heap.size n ob pv wi) := hx3
  clear hA3 hx3 HA2 HX0
  have hnz : ((n : Int) != (n : Int)) = false := by simp
  go_upto_region 46 with (go_at_call 7; refine (len_any HA3.out.g).mono ?_; rintro e w' ⟨rfl, hw⟩; cases hw)
  go_upto_region 47 with (at_builtin; refine wp_appD rfl (.tmp 180) (.tmp 182) rfl HA3.out rfl (.string dd) rfl rfl n (dl_length _ _) (by omega) ?_; intro g1 cap1 w4 L4 hA4 hag hkk)
  have HA4 : Hid _ := hA4
  have HX4 : Hid (Ex inb un w4 L4 w.heap.size n ob pv wi) := Ex.keep (un := un) (ob := ob) (pv := pv) (inb := inb) HX3.out hkk hag (fun l hl => hl)
  clear hA4 HA3 HX3 hag hkk
  go_upto_region 48 with (at_builtin; refine wp_appO rfl (.tmp 184) (.tmp 186) rfl HA4.out rfl (.int .i32 wi) rfl rfl n (ol_length _ _) (by omega) ?_; intro g2 cap2 w5 L5 hA5 hag hkk)
  have HA5 : Hid _ := hA5
  have HX5 : Hid (Ex inb un w5 L5 w.heap.size n ob pv wi) := Ex.keep (un := un) (ob := ob) (pv := pv) (inb := inb) HX4.out hkk hag (fun l hl => hl)
  clear hA5 HA4 HX4 hag hkk
  go_upto_region 49 with (at_builtin; refine wp_appP rfl (.tmp 188) (.tmp 192) rfl HA5.out rfl (.int .i32 ((M : Int) + 1)) rfl rfl n (pl_length _ _) (by omega) ?_; intro g3 cap3 w6 L6 hA6 hag hkk)
  have HA6 : Hid _ := hA6
  have HX6 : Hid (Ex inb un w6 L6 w.heap.size n ob pv wi) := Ex.keep (un := un) (ob := ob) (pv := pv) (inb := inb) HX5.out hkk hag (fun l hl => hl)
  clear hA6 HA5 HX5 hag hkk
  go_upto_region 50 with (at_builtin; refine wp_appS rfl (.tmp 194) (.tmp 195) rfl HA6.out rfl (.slice none 0 0) rfl rfl n (sl_length _ _) (by omega) ?_; intro g4 cap4 w7 L7 hA7 hag hkk)
  have HA7 : Hid _ := hA7
  have HX7 : Hid (Ex inb un w7 L7 w.heap.size n ob pv wi) := Ex.keep (un := un) (ob := ob) (pv := pv) (inb := inb) HX6.out hkk hag (fun l hl => hl)
  have q6 : w7.cell? ⟨g4, wi, none⟩ = some (.slice ma M mc) := by rw [← HMV.out]; exact hA7.s.at' (sl_at' mv hir _)
  have HMV' : Hid ((fun i => if i = n then Value.slice none 0 0 else mv i) wi = .slice ma M mc) := by
    show (if wi = n then Value.slice none 0 0 else mv wi) = _
    rw [if_neg hne]; exact HMV.out
  have HPL : Hid (((fun i => if i = n then [] else (ob i).parts) wi).length = M) := by
    show (if wi = n then [] else (ob wi).parts).length = M
    rw [if_neg hne]; exact HM.out
  have hiz2 : (wi : Int) < (n : Int) + 1 := by omega
  clear hA7 HA6 HX6 hag hkk
  go_cut [14] (fun s14 wx => s14 = .slice (some ⟨g4, 0, none⟩) (n + 1) cap4 ∧ ∃ g5 cap5 L8, All w wx L8 w.heap.size w.heap.size un (n + 1) (partOb ob n wi dd) pv3 C3 nc3 cv3 (dl ob n ++ [.string dd]) (ids ws) (ol ob n ++ [.int .i32 wi]) (pl ob n ++ [.int .i32 ((M : Int) + 1)])
      ((sl mv n ++ [Value.slice none 0 0]).set wi (.slice (some ⟨g5, 0, none⟩) (M + 1) cap5)) (.slice (some ⟨g1, 0, none⟩) (n + 1) cap1) (.slice (some ⟨wg, 0, none⟩) lw wc') (.slice (some ⟨g2, 0, none⟩) (n + 1) cap2) (.slice (some ⟨g3, 0, none⟩) (n + 1) cap3) (.slice (some ⟨g4, 0, none⟩) (n + 1) cap4) (n + 1)
      (fun i => if i = wi then .slice (some ⟨g5, 0, none⟩) (M + 1) cap5 else if i = n then .slice none 0 0 else mv i) (fun i => if i = wi then (ob wi).parts ++ [n] else if i = n then [] else (ob i).parts) ∧ Ex inb un wx L8 w.heap.size n ob pv wi)
  case first =>
    go_wp2_with (at_builtin; refine wp_appM rfl (.tmp 202) (.tmp 204) rfl HA7.out wi n (by omega) (by rw [List.length_append, sl_length]; simp; omega) (by rw [List.length_append, sl_length]; rfl) HMV'.out.symm rfl M HPL.out (by omega) ?_; intro g5 cap5 w8 hA8 hu hf8; obtain ⟨u8', hu8⟩ := hu; have HA8 : Hid _ := hA8; clear hA8)
    go_meet
    obtain ⟨L8, hA8, hag, hkk⟩ := HA8.out
    simp only [if_neg hne] at hA8
    exact ⟨rfl, g5, cap5, L8, hA8, Ex.keep (un := un) (ob := ob) (pv := pv) (inb := inb) HX7.out hkk hag (fun l hl => hl)⟩
  case rest =>
    obtain ⟨rfl, g5, cap5, L8, hA8, hX8⟩ := hcut
    apply ‹∀ (a : Act) (w : World), Code.wp _ _ _ a w → _›
    go_light
    have e : ((M : Int) + 1) = (((ob wi).parts.length + 1 : Nat) : Int) := by rw [HM.out]; simp
    rw [e] at hA8
    exact tail51 hn hir HWH.out.1 HWH.out.2 HM.out HPV.out (canonB HW.out (by rw [HLW.out]; exact hwl) hir hA8) hX8

end Go.Proofs.Ybulkexmym
