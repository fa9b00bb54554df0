/-
  Within the law's loop that builds the parts, from region 15 on: the symbols, their row's copy, the part.
-/
import Derived.Test.YbulkexmzaRg
import Derived.Test.YbulkexmzaRh
namespace Go.Proofs.Ybulkexmza
open Go.RowKit Go.Maps

theorem Yba.size34 : (Yba.prog.info? 34).map (·.size) = some 1 := by kernel_rfl
section
variable {w wr : World} {X : Inp} {r c : Nat} {f : Nat → Value}
theorem Be.drew (h : Be w wr X r c) : Be w wr.drew X r c := ⟨h.mem.drew, h.size, h.cur, h.csym⟩
theorem Bd.drew (h : Bd w wr X r) : Bd w wr.drew X r := ⟨h.mem.drew, h.size⟩
theorem Bf.drew (h : Bf w wr X r f) : Bf w wr.drew X r f := ⟨h.since.drew, h.parts, h.built, h.part, h.syms, h.bsyms, h.sym, h.size, h.cp⟩
theorem symf2_bss {S : Nat} (h : X.SK r c % 4 = 2) : X.symf S r c 2 = .slice none 0 0 := by simp [Inp.symf, h]
theorem symf2_dat {S : Nat} (h : ¬ X.SK r c % 4 = 2) : X.symf S r c 2 = .slice (some ⟨X.qb S r c, 0, none⟩) (X.SD r c) (X.SD r c) := by simp [Inp.symf, h]
end

set_option maxHeartbeats 8000000 in
set_option maxRecDepth 1000000 in
theorem t15 {c1 c2 c3 c4 c10 c11 c12 c13 c14 c15 c16 c17 c18 c19 c20 c21 c22 c23 c24 c25 c26 c27 c28 c29 c30 c31 c32 c33 c34 c35 c36 c37 c38 c39 c40 c41 c42 c43 c44 c45 c46 c47 c48 c49 c50 c51 c52 c53 c54 c55 c56 c57 c58 c59 c60 c61 c62 c63 c64 c65 c66 c67 c68 c69 c70 c71 c72 c73 c74 c75 c76 c77 c78 c79 c80 c81 c82 c83 c84 c85 c86 c87 c88 c89 c90 c91 c92 c93 c94 c95 c96 c97 c98 c99 c100 c101 c102 c103 c104 c105 c106 c107 c108 c109 c110 c111 c112 c113 c114 c115 c116 c117 c118 c119 c120 c121 c122 c123 c124 c125 c126 c127 c128 c129 c130 c131 c132 c133 c134 c135 c136 c137 c138 c139 c140 c141 c142 c143 c144 c145 c146 c147 c148 c149 c150 c151 c152 c153 c154 c155 c156 c157 c158 c159 c160 c161 c162 c163 c164 c165 c166 c167 c168 c169 c170 c171 c172 c173 c174 c175 c176 c177 c178 c179 c180 c181 c182 c183 c184 c185 c186 c187 c188 c189 c190 c191 c192 c193 c194 c195 c196 c197 c198 c199 c200 c201 c202 c203 c204 c205 c206 c207 c208 c209 c210 c211 c212 c213 c214 c215 c216 c217 c218 c219 c220 c221 c222 c223 c224 c225 c226 c227 c228 c229 c230 c231 c232 c233 c234 c235 c236 c237 c238 c239 c240 c241 c242 c243 c244 c245 c246 c247 c248 c249 c250 c251 c252 c253 c254 c255 c256 c257 c258 c259 c260 c261 c262 c263 c264 c265 c266 c267 c268 c269 c270 c271 c272 c273 c274 c275 c276 c277 c278 c279 c280 c281 c282 c283 c284 c285 c286 c287 c288 c289 c290 c291 c292 c293 c294 c295 c296 c297 c298 c299 c300 c301 c302 c303 c304 c305 c306 c307 c308 c309 c310 c311 c312 c313 c314 c315 c316 c317 c318 c319 c320 c321 c322 c323 c324 c325 c326 c327 c328 c329 c330 c331 c332 c333 c334 c335 c336 c337 c338 c339 c340 c341 c342 c343 c344 c345 c346 c347 c348 c349 c350 c351 c352 c353 c354 c355 c356 c357 c358 c359 c360 c361 c362 c363 c364 c365 c366 c367 c368 c369 c370 c371 c372 c373 c374 c375 c376 c377 c378 c379 c380 c381 c382 c383 c384 c385 c386 c387 c388 c389 c390 c391 c392 c393 c394 c395 c396 c397 c398 c399 c400 c401 c402 c403 c404 c405 c406 c407 c408 c409 c410 c411 c412 c413 c414 c415 c416 c417 c418 c419 c420 c421 c422 c423 c424 c425 c426 c427 c428 c429 c430 c431 c432 c433 c434 c435 c436 c437 c438 c439 c440 c441 c442 c443 c444 c445 c446 c447 c448 c449 c450 c451 c452 c453 c454 c455 c456 c457 c458 c459 c460 c461 c462 c463 c464 c465 c466 c467 c468 c469 c470 c471 c472 c473 c474 c475 c476 c477 c478 c479 c480 c481 c482 : Value} {w w1 : World} {X : Inp} {ar : Option Addr} {rb ro r Gc Cr : Nat} {A : Nat → Option Addr} {C AB AO : Nat → Nat} {Q : Exit → Act → World → Prop}
    (hX : X.Ok) (hrG : r < X.G) (hI : InM w X (some ⟨rb, ro, none⟩) rb ro A C AB AO) (har : 0 < X.L r → ar = some ⟨AB r, AO r, none⟩) (hS : Be w w1 X r 0)
    (hQ : ∀ (u10 u11 u12 u75 u76 u77 u78 u79 u80 u81 u82 u83 u84 u85 u86 u87 u88 u89 u90 u91 u92 u93 u94 u95 u96 u97 u98 u99 u100 u101 u102 u103 u104 u105 u106 u107 u108 u109 u110 u111 u112 u113 u114 u115 u116 u117 u118 u119 u120 u121 u122 u123 u124 u125 u126 u127 u128 u129 u130 u131 u132 u133 u134 u135 u136 u137 u138 u139 u140 u141 u142 u143 u144 u145 u146 u147 u148 u149 u150 u151 u152 u153 u154 : Value) (w' : World), Bd w w' X (r + 1) → Q .normal ⟨#[.slice (some ⟨rb, ro, none⟩) X.G Gc, c1, c2, c3, c4, .slice (some ⟨w.heap.size, 0, none⟩) X.G X.G, .slice (some ⟨w.heap.size + 1, 0, none⟩) X.G X.G, .int .i64 (r : Nat), .slice ar (X.L r) Cr, .slice (some ⟨X.h w.heap.size r, 0, none⟩) (X.L r) (X.L r), u10, u11, u12, c13, c14, c15, c16, c17, c18, c19, c20, c21, c22, c23, c24, c25, c26, c27, c28, c29, c30, c31, c32, c33, c34, c35, c36, c37, c38, c39, c40, c41, c42, c43, c44, c45, c46, c47, c48, c49, c50, c51, c52, c53, c54, c55, c56, c57, c58, c59, c60, c61, c62, c63, c64, c65, c66, c67, c68, c69, c70, c71, c72, c73, c74, u75, u76, u77, u78, u79, u80, u81, u82, u83, u84, u85, u86, u87, u88, u89, u90, u91, u92, u93, u94, u95, u96, u97, u98, u99, u100, u101, u102, u103, u104, u105, u106, u107, u108, u109, u110, u111, u112, u113, u114, u115, u116, u117, u118, u119, u120, u121, u122, u123, u124, u125, u126, u127, u128, u129, u130, u131, u132, u133, u134, u135, u136, u137, u138, u139, u140, u141, u142, u143, u144, u145, u146, u147, u148, u149, u150, u151, u152, u153, u154, c155, c156, c157, c158, c159, c160, c161, c162, c163, c164, c165, c166, c167, c168, c169, c170, c171, c172, c173, c174, c175, c176, c177, c178, c179, c180, c181, c182, c183, c184, c185, c186, c187, c188, c189, c190, c191, c192, c193, c194, c195, c196, c197, c198, c199, c200, c201, c202, c203, c204, c205, c206, c207, c208, c209, c210, c211, c212, c213, c214, c215, c216, c217, c218, c219, c220, c221, c222, c223, c224, c225, c226, c227, c228, c229, c230, c231, c232, c233, c234, c235, c236, c237, c238, c239, c240, c241, c242, c243, c244, c245, c246, c247, c248, c249, c250, c251, c252, c253, c254, c255, c256, c257, c258, c259, c260, c261, c262, c263, c264, c265, c266, c267, c268, c269, c270, c271, c272, c273, c274, c275, c276, c277, c278, c279, c280, c281, c282, c283, c284, c285, c286, c287, c288, c289, c290, c291, c292, c293, c294, c295, c296, c297, c298, c299, c300, c301, c302, c303, c304, c305, c306, c307, c308, c309, c310, c311, c312, c313, c314, c315, c316, c317, c318, c319, c320, c321, c322, c323, c324, c325, c326, c327, c328, c329, c330, c331, c332, c333, c334, c335, c336, c337, c338, c339, c340, c341, c342, c343, c344, c345, c346, c347, c348, c349, c350, c351, c352, c353, c354, c355, c356, c357, c358, c359, c360, c361, c362, c363, c364, c365, c366, c367, c368, c369, c370, c371, c372, c373, c374, c375, c376, c377, c378, c379, c380, c381, c382, c383, c384, c385, c386, c387, c388, c389, c390, c391, c392, c393, c394, c395, c396, c397, c398, c399, c400, c401, c402, c403, c404, c405, c406, c407, c408, c409, c410, c411, c412, c413, c414, c415, c416, c417, c418, c419, c420, c421, c422, c423, c424, c425, c426, c427, c428, c429, c430, c431, c432, c433, c434, c435, c436, c437, c438, c439, c440, c441, c442, c443, c444, c445, c446, c447, c448, c449, c450, c451, c452, c453, c454, c455, c456, c457, c458, c459, c460, c461, c462, c463, c464, c465, c466, c467, c468, c469, c470, c471, c472, c473, c474, c475, c476, c477, c478, c479, c480, c481, c482], []⟩ w') :
    Code.wp Yba.prog ((Yba.f3.body.bind (codeAt 15)).getD .skip) Q ⟨#[.slice (some ⟨rb, ro, none⟩) X.G Gc, c1, c2, c3, c4, .slice (some ⟨w.heap.size, 0, none⟩) X.G X.G, .slice (some ⟨w.heap.size + 1, 0, none⟩) X.G X.G, .int .i64 (r : Nat), .slice ar (X.L r) Cr, .slice (some ⟨X.h w.heap.size r, 0, none⟩) (X.L r) (X.L r), c10, c11, c12, c13, c14, c15, c16, c17, c18, c19, c20, c21, c22, c23, c24, c25, c26, c27, c28, c29, c30, c31, c32, c33, c34, c35, c36, c37, c38, c39, c40, c41, c42, c43, c44, c45, c46, c47, c48, c49, c50, c51, c52, c53, c54, c55, c56, c57, c58, c59, c60, c61, c62, c63, c64, c65, c66, c67, c68, c69, c70, c71, c72, c73, c74, c75, c76, c77, c78, c79, c80, c81, c82, c83, c84, c85, c86, c87, c88, c89, c90, c91, c92, c93, c94, c95, c96, c97, c98, c99, c100, c101, c102, c103, c104, c105, c106, c107, c108, c109, c110, c111, c112, c113, c114, c115, c116, c117, c118, c119, c120, c121, c122, c123, c124, c125, c126, c127, c128, c129, c130, c131, c132, c133, c134, c135, c136, c137, c138, c139, c140, c141, c142, c143, c144, c145, c146, c147, c148, c149, c150, c151, c152, c153, c154, c155, c156, c157, c158, c159, c160, c161, c162, c163, c164, c165, c166, c167, c168, c169, c170, c171, c172, c173, c174, c175, c176, c177, c178, c179, c180, c181, c182, c183, c184, c185, c186, c187, c188, c189, c190, c191, c192, c193, c194, c195, c196, c197, c198, c199, c200, c201, c202, c203, c204, c205, c206, c207, c208, c209, c210, c211, c212, c213, c214, c215, c216, c217, c218, c219, c220, c221, c222, c223, c224, c225, c226, c227, c228, c229, c230, c231, c232, c233, c234, c235, c236, c237, c238, c239, c240, c241, c242, c243, c244, c245, c246, c247, c248, c249, c250, c251, c252, c253, c254, c255, c256, c257, c258, c259, c260, c261, c262, c263, c264, c265, c266, c267, c268, c269, c270, c271, c272, c273, c274, c275, c276, c277, c278, c279, c280, c281, c282, c283, c284, c285, c286, c287, c288, c289, c290, c291, c292, c293, c294, c295, c296, c297, c298, c299, c300, c301, c302, c303, c304, c305, c306, c307, c308, c309, c310, c311, c312, c313, c314, c315, c316, c317, c318, c319, c320, c321, c322, c323, c324, c325, c326, c327, c328, c329, c330, c331, c332, c333, c334, c335, c336, c337, c338, c339, c340, c341, c342, c343, c344, c345, c346, c347, c348, c349, c350, c351, c352, c353, c354, c355, c356, c357, c358, c359, c360, c361, c362, c363, c364, c365, c366, c367, c368, c369, c370, c371, c372, c373, c374, c375, c376, c377, c378, c379, c380, c381, c382, c383, c384, c385, c386, c387, c388, c389, c390, c391, c392, c393, c394, c395, c396, c397, c398, c399, c400, c401, c402, c403, c404, c405, c406, c407, c408, c409, c410, c411, c412, c413, c414, c415, c416, c417, c418, c419, c420, c421, c422, c423, c424, c425, c426, c427, c428, c429, c430, c431, c432, c433, c434, c435, c436, c437, c438, c439, c440, c441, c442, c443, c444, c445, c446, c447, c448, c449, c450, c451, c452, c453, c454, c455, c456, c457, c458, c459, c460, c461, c462, c463, c464, c465, c466, c467, c468, c469, c470, c471, c472, c473, c474, c475, c476, c477, c478, c479, c480, c481, c482], []⟩ w1 := by
  conv => arg 2; whnf
  have HI : Hid (InM w X (some ⟨rb, ro, none⟩) rb ro A C AB AO) := hI
  have HA : Hid (0 < X.L r → ar = some ⟨AB r, AO r, none⟩) := har
  have HS : Hid (Be w w1 X r 0) := hS
  have HQ : Hid (∀ (u10 u11 u12 u75 u76 u77 u78 u79 u80 u81 u82 u83 u84 u85 u86 u87 u88 u89 u90 u91 u92 u93 u94 u95 u96 u97 u98 u99 u100 u101 u102 u103 u104 u105 u106 u107 u108 u109 u110 u111 u112 u113 u114 u115 u116 u117 u118 u119 u120 u121 u122 u123 u124 u125 u126 u127 u128 u129 u130 u131 u132 u133 u134 u135 u136 u137 u138 u139 u140 u141 u142 u143 u144 u145 u146 u147 u148 u149 u150 u151 u152 u153 u154 : Value) (w' : World), Bd w w' X (r + 1) → Q .normal ⟨#[.slice (some ⟨rb, ro, none⟩) X.G Gc, c1, c2, c3, c4, .slice (some ⟨w.heap.size, 0, none⟩) X.G X.G, .slice (some ⟨w.heap.size + 1, 0, none⟩) X.G X.G, .int .i64 (r : Nat), .slice ar (X.L r) Cr, .slice (some ⟨X.h w.heap.size r, 0, none⟩) (X.L r) (X.L r), u10, u11, u12, c13, c14, c15, c16, c17, c18, c19, c20, c21, c22, c23, c24, c25, c26, c27, c28, c29, c30, c31, c32, c33, c34, c35, c36, c37, c38, c39, c40, c41, c42, c43, c44, c45, c46, c47, c48, c49, c50, c51, c52, c53, c54, c55, c56, c57, c58, c59, c60, c61, c62, c63, c64, c65, c66, c67, c68, c69, c70, c71, c72, c73, c74, u75, u76, u77, u78, u79, u80, u81, u82, u83, u84, u85, u86, u87, u88, u89, u90, u91, u92, u93, u94, u95, u96, u97, u98, u99, u100, u101, u102, u103, u104, u105, u106, u107, u108, u109, u110, u111, u112, u113, u114, u115, u116, u117, u118, u119, u120, u121, u122, u123, u124, u125, u126, u127, u128, u129, u130, u131, u132, u133, u134, u135, u136, u137, u138, u139, u140, u141, u142, u143, u144, u145, u146, u147, u148, u149, u150, u151, u152, u153, u154, c155, c156, c157, c158, c159, c160, c161, c162, c163, c164, c165, c166, c167, c168, c169, c170, c171, c172, c173, c174, c175, c176, c177, c178, c179, c180, c181, c182, c183, c184, c185, c186, c187, c188, c189, c190, c191, c192, c193, c194, c195, c196, c197, c198, c199, c200, c201, c202, c203, c204, c205, c206, c207, c208, c209, c210, c211, c212, c213, c214, c215, c216, c217, c218, c219, c220, c221, c222, c223, c224, c225, c226, c227, c228, c229, c230, c231, c232, c233, c234, c235, c236, c237, c238, c239, c240, c241, c242, c243, c244, c245, c246, c247, c248, c249, c250, c251, c252, c253, c254, c255, c256, c257, c258, c259, c260, c261, c262, c263, c264, c265, c266, c267, c268, c269, c270, c271, c272, c273, c274, c275, c276, c277, c278, c279, c280, c281, c282, c283, c284, c285, c286, c287, c288, c289, c290, c291, c292, c293, c294, c295, c296, c297, c298, c299, c300, c301, c302, c303, c304, c305, c306, c307, c308, c309, c310, c311, c312, c313, c314, c315, c316, c317, c318, c319, c320, c321, c322, c323, c324, c325, c326, c327, c328, c329, c330, c331, c332, c333, c334, c335, c336, c337, c338, c339, c340, c341, c342, c343, c344, c345, c346, c347, c348, c349, c350, c351, c352, c353, c354, c355, c356, c357, c358, c359, c360, c361, c362, c363, c364, c365, c366, c367, c368, c369, c370, c371, c372, c373, c374, c375, c376, c377, c378, c379, c380, c381, c382, c383, c384, c385, c386, c387, c388, c389, c390, c391, c392, c393, c394, c395, c396, c397, c398, c399, c400, c401, c402, c403, c404, c405, c406, c407, c408, c409, c410, c411, c412, c413, c414, c415, c416, c417, c418, c419, c420, c421, c422, c423, c424, c425, c426, c427, c428, c429, c430, c431, c432, c433, c434, c435, c436, c437, c438, c439, c440, c441, c442, c443, c444, c445, c446, c447, c448, c449, c450, c451, c452, c453, c454, c455, c456, c457, c458, c459, c460, c461, c462, c463, c464, c465, c466, c467, c468, c469, c470, c471, c472, c473, c474, c475, c476, c477, c478, c479, c480, c481, c482], []⟩ w') := hQ
  clear hI har hS hQ
  have hG := hX.g
  have hLr := hX.l hrG
  have hrz : (r : Int) < (X.G : Int) := by omega
  refine wp_seq_hid (fun K HK => ?_)
  go_wp2
  go_loopg [10] (X.L r) (fun g s10 wx => ∃ c : Nat, c ≤ X.L r ∧ g = X.L r - c ∧ s10 = .int .i64 c ∧ Be w wx X r c)
  case atStart => exact ⟨0, Nat.zero_le _, rfl, rfl, HS.out⟩
  case round =>
    clear HS
    obtain ⟨j, hj, rfl, rfl, hS⟩ := hrel
    have HS : Hid (Be w wr X r j) := hS
    clear hS
    by_cases hjL : j < X.L r
    · have hjz : (j : Int) < (X.L r : Int) := by omega
      have e1 := HA.out (by omega)
      subst e1
      have HI' : Hid (InM wr X (some ⟨rb, ro, none⟩) rb ro A C AB AO) := HI.out.since HS.out.mem.since
      have s1 := HI'.out.s1 r hrG j hjL
      have s2 := HI'.out.s2 r hrG j hjL
      have hrem := rem4 (X.SK r j)
      have hk := Nat.mod_lt (X.SK r j) (show 0 < 4 by omega)
      obtain ⟨k, hkk⟩ : ∃ k, k = X.SK r j % 4 := ⟨_, rfl⟩
      have HKK : Hid (k = X.SK r j % 4) := hkk
      rw [← hkk] at hrem hk
      clear hkk
      have hd := hX.sd r hrG j hjL
      have hz := hX.sz r hrG j hjL
      have hsa := hX.sa r hrG j hjL
      have hsk := hX.sk r hrG j hjL
      refine wp_seq_hid (fun K2 HK2 => ?_)
      go_wp2
      refine HK2.out _ _ ?_
      clear HK2 K2
      refine wp_seq_hid (fun K2 HK2 => ?_)
      refine wp_block ?_
      refine wp_seq_hid (fun K3 HK3 => ?_)
      go_wp2
      refine HK3.out _ _ ?_
      clear HK3 K3 s1
      refine wp_seq_hid (fun K3 HK3 => ?_)
      go_wp2
      refine HK3.out _ _ ?_
      clear HK3 K3
      refine wp_seq_hid (fun K3 HK3 => ?_)
      by_cases hk2 : X.SK r j % 4 = 2
      · have hkb : ((k : Int) != 2) = false := by rw [HKK.out, hk2]; rfl
        have HN := HS.out.put (World.grownBy.refl wr none) (by rw [HS.out.size]; simp [Inp.sb, hk2]) _ rfl
        rw [symf2_bss hk2, ← HKK.out] at HN
        have hsz : wr.heap.size = X.sb w.heap.size r j := by rw [HS.out.size]; simp [Inp.sb, hk2]
        clear hk2
        go_wp2
        refine HK3.out _ _ ?_
        clear HK3 K3 s2
        refine r22 hjL hLr hz hsa (HI'.out.s0 r hrG j hjL) (HI'.out.s3 r hrG j hjL) (HI'.out.s4 r hrG j hjL) (by rw [HS.out.cur.cell hjL]; simp) (HS.out.cur.frozen j) HS.out.cur.lt ?_
        intros
        show K2 _ _
        refine HK2.out _ _ ?_
        rw [hsz]
        have HN' : Hid (Be w _ X r (j + 1)) := HN.drew
        clear HN HK2 HS HI' hsz
        go_wp2
        go_roundg (X.L r - (j + 1))
        case measure => go_light; omega
        case rel => go_light; exact ⟨j + 1, hjL, rfl, by simp, HN'.out⟩
      · have hkb : ((k : Int) != 2) = true := by have := HKK.out; simp; omega
        have hmk := run_make_row' (P := Yba.prog) 33 5 (.int .u8 0) 1 Yba.underlying33 Yba.info5 rfl .i64 .i64 (X.SD r j) (by omega) (by omega)
        have hsz : (wr.alloc (.cells (madeCells #[.int .u8 0] (X.SD r j)) 5)).heap.size = X.sb w.heap.size r j := by simp [HS.out.size, Inp.sb, hk2]
        have HN := HS.out.put (World.grownBy_alloc wr (.cells (madeCells #[.int .u8 0] (X.SD r j)) 5) none) hsz _ rfl
        rw [symf2_dat hk2, ← HKK.out, ← HS.out.size] at HN
        have HI2 : Hid (InM (wr.alloc (.cells (madeCells #[.int .u8 0] (X.SD r j)) 5)) X (some ⟨rb, ro, none⟩) rb ro A C AB AO) := HI.out.since (HS.out.mem.alloc _).since
        have HCU : Hid ((wr.alloc (.cells (madeCells #[.int .u8 0] (X.SD r j)) 5)).rowIs (X.h w.heap.size r) 34 (X.L r) (fun k => if k < j then .pointer (some ⟨X.sb w.heap.size r k, 0, none⟩) else .pointer none)) := HS.out.cur.alloc _
        clear hk2
        go_wp2
        refine HK3.out _ _ ?_
        clear HK3 K3 s2 hmk
        refine r22 hjL hLr hz hsa (HI2.out.s0 r hrG j hjL) (HI2.out.s3 r hrG j hjL) (HI2.out.s4 r hrG j hjL) (by rw [HCU.out.cell hjL]; simp) (HCU.out.frozen j) HCU.out.lt ?_
        intros
        show K2 _ _
        refine HK2.out _ _ ?_
        rw [hsz]
        have HN' : Hid (Be w _ X r (j + 1)) := HN.drew
        clear HN HK2 HS HI' hsz HI2 HCU
        go_wp2
        go_roundg (X.L r - (j + 1))
        case measure => go_light; omega
        case rel => go_light; exact ⟨j + 1, hjL, rfl, by simp, HN'.out⟩
    · have hjz : ¬ (j : Int) < (X.L r : Int) := by omega
      obtain rfl : j = X.L r := by omega
      go_wp2
      refine HK.out _ _ ?_
      clear HK HA
      -- the copy's row
      have hmk := run_make_row' (P := Yba.prog) 29 34 (.pointer none) 8 Yba.underlying29 Yba.info34 rfl .i64 .i64 (X.L r) (by omega) (by omega)
      have HB : Hid (Bf w ((wr.alloc (.cells (madeCells #[.pointer none] (X.L r)) 34)).setCell ⟨w.heap.size + 1, r, none⟩ (.slice (some ⟨X.bb w.heap.size r, 0, none⟩) (X.L r) (X.L r))) X r (fun _ => .pointer none)) := HS.out.mid
      have hbb : wr.heap.size = X.bb w.heap.size r := HS.out.size
      have hbl := HS.out.mem.built.lt
      have b1 : ∀ o, (wr.alloc o).cell? ⟨w.heap.size + 1, r, none⟩ = some (.slice none 0 0) := fun o => by rw [(HS.out.mem.built.alloc o).cell hrG]; simp
      have b2 : ∀ o, (wr.alloc o).frozen? ⟨w.heap.size + 1, r, none⟩ = false := fun o => (HS.out.mem.built.alloc o).frozen r
      have b3 : wr.cell? ⟨w.heap.size + 1, r, none⟩ = some (.slice none 0 0) := by rw [HS.out.mem.built.cell hrG]; simp
      have b4 : wr.frozen? ⟨w.heap.size + 1, r, none⟩ = false := HS.out.mem.built.frozen r
      clear HS
      refine wp_seq_hid (fun K HK => ?_)
      go_wp2
      refine HK.out _ _ ?_
      clear HK hmk b1 b2 b3 b4 hbl
      generalize (wr.alloc (.cells (madeCells #[.pointer none] (X.L r)) 34)).setCell ⟨w.heap.size + 1, r, none⟩ (.slice (some ⟨X.bb w.heap.size r, 0, none⟩) (X.L r) (X.L r)) = w2 at HB ⊢
      clear hbb
      have b1 : w2.cell? ⟨w.heap.size + 1, r, none⟩ = some (.slice (some ⟨X.bb w.heap.size r, 0, none⟩) (X.L r) (X.L r)) := by rw [HB.out.built.cell hrG]; simp
      refine wp_seq_hid (fun K HK => ?_)
      go_wp2_with (refine wpList_copy_rows rfl (.tmp 129) (.tmp 130) 29 29 rfl 34 Yba.underlying29 Yba.size34 (X.bb w.heap.size r) (X.h w.heap.size r) (X.L r) rfl rfl 34 34 _ _ HB.out.cp (HB.out.syms r (Nat.lt_succ_self r)) (fun _ _ => rfl) ?_; intro w3 hrow hgrow hsize)
      have HC : Hid (Bf w w3 X r (fun k => .pointer (some ⟨X.sb w.heap.size r k, 0, none⟩))) := HB.out.copied hgrow hsize hrow
      clear HB hrow hgrow hsize b1
      refine HK.out _ _ ?_
      clear HK
      have hpb : w3.heap.size = X.pb w.heap.size r := HC.out.size
      have HI3 := HI.out.since HC.out.since
      refine r25 hG hrG (hX.i r hrG) (HI3.c0 r hrG) (HI3.c1 r hrG) (HI3.c2 r hrG) (rem4 (X.K r)) (Nat.mod_lt _ (by omega)) (by rw [HC.out.parts.cell hrG]; simp) (HC.out.parts.frozen r) HC.out.parts.lt ?_
      intros
      apply HQ.out
      rw [hpb]
      exact HC.out.done.drew
end Go.Proofs.Ybulkexmza
