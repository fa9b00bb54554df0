/-
  link.LawS194012BWhole (3) from region 74 on: the two tables are held against each other.
-/
import Derived.Test.YbulkexmzaInm
namespace Go.Proofs.Ybulkexmza
open Go.RowKit Go.Maps
open Go.WideMaps (keyOf_string_mk)

theorem eql43 (b : Nat) (w : World) : (binOp .eql 43 (.map (some b)) (.map none)).run Yba.prog w = .ok (.bool false) w := by kernel_rfl

/-- The two look-ups answer alike. -/
theorem looks {wr : World} {X : Inp} {mb mw nb nw : Nat} {r j : Nat} (h1 : wr.ownsMap Yba.prog 9 (plainElem Yba.prog 40) mb nb (X.tab X.G)) (h2 : wr.ownsMap Yba.prog 9 (plainElem Yba.prog 40) mw nw (X.tab X.G)) (hr : r < X.G) (hj : j < X.L r) (hs : (X.SN r j).size ≤ maxLen) :
    ∃ c : Int, (Instr.lookup 43 (.map (some mb)) (.string (X.SN r j)) true).run Yba.prog wr = .ok (.tuple #[.int .u64 c, .bool true]) wr ∧ (Instr.lookup 43 (.map (some mw)) (.string (X.SN r j)) false).run Yba.prog wr = .ok (.int .u64 c) wr := by
  have hk := keyOf_string_mk Yba.underlying9 hs
  obtain ⟨v, ps, r1, a1⟩ := h1.look_ok keyed Yba.underlying43 (zero40 wr) (plainElem_int Yba.underlying40 (by decide)) hk
  obtain ⟨c, r2, a2, _⟩ := h2.lookup_int keyed Yba.underlying43 Yba.underlying40 (zero40 wr) hk
  obtain ⟨c', rfl, hc, _⟩ := plainElem_int_inv Yba.underlying40 a1
  simp only [Prod.mk.injEq] at hc
  rw [a2] at hc
  have e : c = c' := by simpa using hc.1
  subst e
  have hh : Maps.has (X.tab X.G) (.string (X.SN r j).data.toList) = true := X.has_tab hr hj
  rw [hh] at r1
  exact ⟨c, r1, r2⟩

set_option maxHeartbeats 1000000 in
set_option maxRecDepth 1000000 in
theorem tail74 {c1 c2 c3 c4 c5 c6 c7 c8 c9 c10 c11 c12 c15 c16 c17 c18 c19 c20 c21 c22 c23 c24 c25 c26 c27 c28 c29 c30 c31 c32 c33 c34 c35 c36 c37 c38 c39 c40 c41 c42 c43 c44 c45 c46 c47 c48 c49 c50 c51 c52 c53 c54 c55 c56 c57 c58 c59 c60 c61 c62 c63 c64 c65 c66 c67 c68 c69 c70 c71 c72 c73 c74 c75 c76 c77 c78 c79 c80 c81 c82 c83 c84 c85 c86 c87 c88 c89 c90 c91 c92 c93 c94 c95 c96 c97 c98 c99 c100 c101 c102 c103 c104 c105 c106 c107 c108 c109 c110 c111 c112 c113 c114 c115 c116 c117 c118 c119 c120 c121 c122 c123 c124 c125 c126 c127 c128 c129 c130 c131 c132 c133 c134 c135 c136 c137 c138 c139 c140 c141 c142 c143 c144 c145 c146 c147 c148 c149 c150 c151 c152 c153 c154 c155 c156 c157 c158 c159 c160 c161 c162 c163 c164 c165 c166 c167 c168 c169 c170 c171 c172 c173 c174 c175 c176 c177 c178 c179 c180 c181 c182 c183 c184 c185 c186 c187 c188 c189 c190 c191 c192 c193 c194 c195 c196 c197 c198 c199 c200 c201 c202 c203 c204 c205 c206 c207 c208 c209 c210 c211 c212 c213 c214 c215 c216 c217 c218 c219 c220 c221 c222 c223 c224 c225 c226 c227 c228 c229 c230 c231 c232 c233 c234 c235 c236 c237 c238 c239 c240 c241 c242 c243 c244 c245 c246 c247 c248 c249 c250 c251 c252 c253 c254 c255 c256 c257 c258 c259 c260 c261 c262 c263 c264 c265 c266 c267 c268 c269 c270 c271 c272 c273 c274 c275 c276 c277 c278 c279 c280 c281 c282 c283 c284 c285 c286 c287 c288 c289 c290 c291 c292 c293 c294 c295 c296 c297 c298 c299 c300 c301 c302 c303 c304 c305 c306 c307 c308 c309 c310 c311 c312 c313 c314 c315 c316 c317 c318 c319 c320 c321 c322 c323 c324 c325 c326 c327 c328 c329 c330 c331 c332 c333 c334 c335 c336 c337 c338 c339 c340 c341 c342 c343 c344 c345 c346 c347 c348 c349 c350 c351 c352 c353 c354 c355 c356 c357 c358 c359 c360 c361 c362 c363 c364 c365 c366 c367 c368 c369 c370 c371 c372 c373 c374 c375 c376 c377 c378 c379 c380 c381 c382 c383 c384 c385 c386 c387 c388 c389 c390 c391 c392 c393 c394 c395 c396 c397 c398 c399 c400 c401 c402 c403 c404 c405 c406 c407 c408 c409 c410 c411 c412 c413 c414 c415 c416 c417 c418 c419 c420 c421 c422 c423 c424 c425 c426 c427 c428 c429 c430 c431 c432 c433 c434 c435 c436 c437 c438 c439 c440 c441 c442 c443 c444 c445 c446 c447 c448 c449 c450 c451 c452 c453 c454 c455 c456 c457 c458 c459 c460 c461 c462 c463 c464 c465 c466 c467 c468 c469 c470 c471 c472 c473 c474 c475 c476 c477 c478 c479 c480 c481 c482 : Value} {w w1 : World} {X : Inp} {ra : Option Addr} {rb ro Gc : Nat} {A : Nat → Option Addr} {C AB AO : Nat → Nat} {mb mw nb nw : Nat} (hX : X.Ok) (hI : InM w1 X ra rb ro A C AB AO) (hs : w.Since w.heap.size w1)
    (h1 : w1.ownsMap Yba.prog 9 (plainElem Yba.prog 40) mb nb (X.tab X.G)) (h2 : w1.ownsMap Yba.prog 9 (plainElem Yba.prog 40) mw nw (X.tab X.G)) :
    Code.wp Yba.prog ((Yba.f3.body.bind (codeAt 74)).getD .skip) (bodyPost Yba.prog Yba.f3 fun e w' => e = .returned (.bool true) ∧ w.Since w.heap.size w') ⟨#[.slice ra X.G Gc, c1, c2, c3, c4, c5, c6, c7, c8, c9, c10, c11, c12, .map (some mb), .map (some mw), c15, c16, c17, c18, c19, c20, c21, c22, c23, c24, c25, c26, c27, c28, c29, c30, c31, c32, c33, c34, c35, c36, c37, c38, c39, c40, c41, c42, c43, c44, c45, c46, c47, c48, c49, c50, c51, c52, c53, c54, c55, c56, c57, c58, c59, c60, c61, c62, c63, c64, c65, c66, c67, c68, c69, c70, c71, c72, c73, c74, c75, c76, c77, c78, c79, c80, c81, c82, c83, c84, c85, c86, c87, c88, c89, c90, c91, c92, c93, c94, c95, c96, c97, c98, c99, c100, c101, c102, c103, c104, c105, c106, c107, c108, c109, c110, c111, c112, c113, c114, c115, c116, c117, c118, c119, c120, c121, c122, c123, c124, c125, c126, c127, c128, c129, c130, c131, c132, c133, c134, c135, c136, c137, c138, c139, c140, c141, c142, c143, c144, c145, c146, c147, c148, c149, c150, c151, c152, c153, c154, c155, c156, c157, c158, c159, c160, c161, c162, c163, c164, c165, c166, c167, c168, c169, c170, c171, c172, c173, c174, c175, c176, c177, c178, c179, c180, c181, c182, c183, c184, c185, c186, c187, c188, c189, c190, c191, c192, c193, c194, c195, c196, c197, c198, c199, c200, c201, c202, c203, c204, c205, c206, c207, c208, c209, c210, c211, c212, c213, c214, c215, c216, c217, c218, c219, c220, c221, c222, c223, c224, c225, c226, c227, c228, c229, c230, c231, c232, c233, c234, c235, c236, c237, c238, c239, c240, c241, c242, c243, c244, c245, c246, c247, c248, c249, c250, c251, c252, c253, c254, c255, c256, c257, c258, c259, c260, c261, c262, c263, c264, c265, c266, c267, c268, c269, c270, c271, c272, c273, c274, c275, c276, c277, c278, c279, c280, c281, c282, c283, c284, c285, c286, c287, c288, c289, c290, c291, c292, c293, c294, c295, c296, c297, c298, c299, c300, c301, c302, c303, c304, c305, c306, c307, c308, c309, c310, c311, c312, c313, c314, c315, c316, c317, c318, c319, c320, c321, c322, c323, c324, c325, c326, c327, c328, c329, c330, c331, c332, c333, c334, c335, c336, c337, c338, c339, c340, c341, c342, c343, c344, c345, c346, c347, c348, c349, c350, c351, c352, c353, c354, c355, c356, c357, c358, c359, c360, c361, c362, c363, c364, c365, c366, c367, c368, c369, c370, c371, c372, c373, c374, c375, c376, c377, c378, c379, c380, c381, c382, c383, c384, c385, c386, c387, c388, c389, c390, c391, c392, c393, c394, c395, c396, c397, c398, c399, c400, c401, c402, c403, c404, c405, c406, c407, c408, c409, c410, c411, c412, c413, c414, c415, c416, c417, c418, c419, c420, c421, c422, c423, c424, c425, c426, c427, c428, c429, c430, c431, c432, c433, c434, c435, c436, c437, c438, c439, c440, c441, c442, c443, c444, c445, c446, c447, c448, c449, c450, c451, c452, c453, c454, c455, c456, c457, c458, c459, c460, c461, c462, c463, c464, c465, c466, c467, c468, c469, c470, c471, c472, c473, c474, c475, c476, c477, c478, c479, c480, c481, c482], []⟩ w1 := by
  conv => arg 2; whnf
  have HI : Hid _ := hI
  have HS : Hid _ := hs
  have H1 : Hid (w1.ownsMap Yba.prog 9 (plainElem Yba.prog 40) mb nb (X.tab X.G)) := h1
  have H2 : Hid (w1.ownsMap Yba.prog 9 (plainElem Yba.prog 40) mw nw (X.tab X.G)) := h2
  have l1 := fun ty => h1.len Yba.underlying43 ty
  have l2 := fun ty => h2.len Yba.underlying43 ty
  clear hI hs h1 h2
  have hG := hX.g
  have p1 := eql43 mb
  generalize Maps.size (X.tab X.G) = sz at l1 l2
  go_wp2
  clear l1 l2 p1
  go_loopg [29] X.G (fun g s wx => w1 = wx ∧ ∃ r : Nat, r ≤ X.G ∧ g = X.G - r ∧ s = .int .i64 r)
  case atStart => exact ⟨rfl, 0, Nat.zero_le _, rfl, rfl⟩
  case round =>
    obtain ⟨rfl, r, hr, rfl, rfl⟩ := hrel
    by_cases hrG : r < X.G
    · obtain rfl := HI.out.ad (by omega)
      have hrz : (r : Int) < (X.G : Int) := by omega
      have q3 := HI.out.c3 r hrG
      have hL := hX.l hrG
      obtain ⟨ar, har⟩ : ∃ ar, ar = A r := ⟨_, rfl⟩
      have HA : Hid (0 < X.L r → ar = some ⟨AB r, AO r, none⟩) := fun h => har.trans (HI.out.sa r hrG h)
      rw [← har] at q3
      clear har
      go_wp2
      clear q3
      go_loopg [31] (X.L r) (fun g s wx => w1 = wx ∧ ∃ j : Nat, j ≤ X.L r ∧ g = X.L r - j ∧ s = .int .i64 j)
      case atStart => exact ⟨rfl, 0, Nat.zero_le _, rfl, rfl⟩
      case round =>
        obtain ⟨rfl, j, hj, rfl, rfl⟩ := hrel
        by_cases hjL : j < X.L r
        · have hjz : (j : Int) < (X.L r : Int) := by omega
          have e1 := HA.out (by omega)
          have q0 := HI.out.s0 r hrG j hjL
          obtain ⟨c, k1, k2⟩ := looks H1.out H2.out hrG hjL (hX.sn r hrG j hjL)
          subst e1
          go_wp2
          go_roundg (X.L r - (j + 1))
          case measure => go_light; omega
          case rel => go_light; exact ⟨rfl, j + 1, hjL, rfl, by simp⟩
        · have hjz : ¬ (j : Int) < (X.L r : Int) := by omega
          go_wp2
          go_roundg (X.G - (r + 1))
          case measure => go_light; omega
          case rel => go_light; exact ⟨rfl, r + 1, hrG, rfl, by simp⟩
    · have hrz : ¬ (r : Int) < (X.G : Int) := by omega
      go_wp2
      go_ret
      exact ⟨rfl, HS.out⟩
end Go.Proofs.Ybulkexmza
